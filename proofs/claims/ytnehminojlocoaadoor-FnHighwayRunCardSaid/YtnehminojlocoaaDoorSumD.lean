/- SumD: HvRem2, HvHwy, HvHwy2, HvHwy3, HvHwy4, HvLow, HvNo, HvImp, HvImp2, HvImp3, HvImp4, HvCon, HvPl1, HvPl2, HvPl3, HvPl4, HvPl5. -/
import Derived.Test.YtnehminojlocoaaDoorSumC
import Derived.Recover
import Derived.Defers
import Derived.Deep.WholeRow
namespace Go.Proofs.YtnehminojlocoaaDoor.PAll
open Go.RowKit Go.Proofs.YtnehminojlocoaaDoorW.PrintWords Go.Proofs.YtnehminojlocoaaDoorW.PrintLast Go.Proofs.YtnehminojlocoaaDoorW.PrintMore
set_option linter.unusedVariables false
set_option linter.unusedSimpArgs false
theorem trR_fin (s : Nat → Int) (n : Nat) (m : Nat → Value) (i : Nat) (h : i < 16) : (upm (upm (upm (upm (upm (upm (upm (upm (stm s m) 0 (.int .u64 (IntKind.u64.wrap (s 0 + rA n)))) 4 (.int .u64 (rB (s 4) n))) 1 (.int .u64 (IntKind.u64.wrap (s 1 + rA n)))) 5 (.int .u64 (rB (s 5) n))) 2 (.int .u64 (IntKind.u64.wrap (s 2 + rA n)))) 6 (.int .u64 (rB (s 6) n))) 3 (.int .u64 (IntKind.u64.wrap (s 3 + rA n)))) 7 (.int .u64 (rB (s 7) n))) i = stm (trR s n) m i := by
  rcases (by omega : i = 0 ∨ i = 1 ∨ i = 2 ∨ i = 3 ∨ i = 4 ∨ i = 5 ∨ i = 6 ∨ i = 7 ∨ i = 8 ∨ i = 9 ∨ i = 10 ∨ i = 11 ∨ i = 12 ∨ i = 13 ∨ i = 14 ∨ i = 15) with rfl | rfl | rfl | rfl | rfl | rfl | rfl | rfl | rfl | rfl | rfl | rfl | rfl | rfl | rfl | rfl
  all_goals simp [upm, stm, trR]
theorem Mw.eqs {β : Nat → Nat} {g T n : Nat} {m0 m : Nat → Value} {W : World} (h : Mw β [⟨g, T, n, m0⟩] W) (hm : ∀ i, i < n → m0 i = m i) : Mw β [⟨g, T, n, m⟩] W := Mw.eq0 h hm
theorem lastM {P : Program} {ops : Array Oper} {Q : Exit → Act → World → Prop} {S : World → Prop} {ds : List Nat} {N : Nat} {β : Nat → Nat} {T : TypeId → Option Ty} {n k i fuel : Nat} {u vk : Value} {L : Array Bool} {E : List (Nat × SV)} {B : List Bl} {a : Act} {w : World} (hT : TabOk P T) (hA : Has N β E a) (hM : Mw β B w)
    (hB : (readyB .any ops L (L.setIfInBounds n true) n && (ds.contains n && (Region.ready .any ops (L.setIfInBounds n true) == []))) = true) (hst : stV T ops n (some E) = some (k, i, u)) (hvk : bm B k i = some vk)
    (h : ∀ W, Mw β (bput B k i u) W → Fr [β k] w W → Q .normal a W) : wpAnyLast P .any ops Q S ds (fuel + 1) L a w := by
  obtain ⟨rfl, hM⟩ := hM
  exact lastS hT hA hB hst ⟨_, (hM.at hvk).1⟩ (hM.at hvk).2 (h _ ⟨bg_put _ _ _ _, Mm.set u hM hvk⟩ ((Fr.refl [bg B k] w).set _ (by simp) u))
noncomputable def rem1 : Code := match Tryd.f22.body with
  | some (.seq _ (.seq c _)) => c
  | _ => .skip
set_option maxHeartbeats 8000000 in
set_option maxRecDepth 100000 in
theorem rem_loop (g T b o n c : Nat) (s x : Nat → Int) (m : Nat → Value) (w W0 : World) (a0 : Act) (hn : n < 32) (K : Act → World → Prop)
    (hK : ∀ a W, (⟨g, T, 16, stm (trR s n) m⟩ : Bl).In W → Fr [g] w W → a.eval (.tmp 0) = .pointer (some ⟨g, 0, none⟩) → a.eval (.tmp 1) = .slice (some ⟨b, o, none⟩) n c → a.eval (.tmp 4) = .int .i64 (n : Int) → a.tmps.size = 107 → a.defers = [] → K a W)
    (β : Nat → Nat) (M0 : Mw β [⟨g, T, 16, (stm s m)⟩] W0) (F0 : Fr [g] w W0) (h0 : Has 107 β [(0, .p 0 0), (1, .v (.slice (some ⟨b, o, none⟩) n c)), (4, .v (.int .i64 (n : Int)))] a0) (d0 : a0.defers = []) :
    Code.wp Tryd.prog rem1 (Exit.then K (bodyPost Tryd.prog Tryd.f22 fun e w' => e = .returned (.tuple #[]) ∧ (⟨g, T, 16, stm (remS s n x) m⟩ : Bl).In w' ∧ Fr [g] w w')) a0 W0 := by
  obtain ⟨rfl, _⟩ := id M0
  refine wp_seq ?_
  refine regM_seq (N := 107) (T := TT) (n := 1) (E2 := [(0, .p 0 0), (1, .v (.slice (some ⟨b, o, none⟩) n c)), (4, .v (.int .i64 (n : Int))), (10, .v (.int .i64 0))]) tabOk h0 M0 rfl (by kernel_rfl) ⟨by kernel_rfl, by kernel_rfl, by kernel_rfl, by kernel_rfl, trivial⟩ (fun a1 h1 d1 => ?_)
  show Code.wp _ _ _ _ _
  replace d1 := d1.trans d0
  clear h0 d0
  refine wp_block ?_
  refine wp_loop_rounds 5 ?_
  rw [rounds_succ]
  refine wp_seq ?_
  refine regM_seq (N := 107) (T := TT) (n := 1) (E2 := [(0, .p 0 0), (1, .v (.slice (some ⟨b, o, none⟩) n c)), (4, .v (.int .i64 (n : Int))), (10, .v (.int .i64 0)), (11, .v (.bool true))]) tabOk h1 M0 rfl (by kernel_rfl) ⟨by kernel_rfl, by kernel_rfl, by kernel_rfl, by kernel_rfl, by kernel_rfl, trivial⟩ (fun a2 h2 d2 => ?_)
  show Code.wp _ _ _ _ _
  replace d2 := d2.trans d1
  clear h1 d1
  refine wp_seq ?_
  refine wp_cond_true (h2.2 11 _ rfl) ?_
  refine wp_skip ?_
  show Code.wp _ _ _ _ _
  refine wp_seq ?_
  refine wp_block ?_
  refine wp_seq ?_
  refine regM_seq (N := 107) (T := TT) (n := 2) (E2 := [(0, .p 0 0), (1, .v (.slice (some ⟨b, o, none⟩) n c)), (4, .v (.int .i64 (n : Int))), (5, .v (.int .i64 0)), (10, .v (.int .i64 0))]) tabOk h2 M0 rfl (by kernel_rfl) ⟨by kernel_rfl, by kernel_rfl, by kernel_rfl, by kernel_rfl, by kernel_rfl, trivial⟩ (fun a3 h3 d3 => ?_)
  show Code.wp _ _ _ _ _
  replace d3 := d3.trans d2
  clear h2 d2
  refine wp_seq ?_
  refine regM_store (N := 107) (T := TT) (n := 16) (k := 0) (i := 0) (u := .int .u64 (IntKind.u64.wrap (s 0 + rA n))) (E2 := [(0, .p 0 0), (1, .v (.slice (some ⟨b, o, none⟩) n c)), (4, .v (.int .i64 (n : Int))), (5, .v (.int .i64 0)), (10, .v (.int .i64 0))]) (by kernel_rfl) tabOk h3 M0 rfl (by kernel_rfl) (by kernel_rfl) rfl ⟨by kernel_rfl, by kernel_rfl, by kernel_rfl, by kernel_rfl, by kernel_rfl, trivial⟩ (fun _ _ _ _ hd h => And.intro (hd.trans (And.left h)) (And.right h)) (fun a4 W4 h4 d4 M4 G4 => ?_)
  show Code.wp _ _ _ _ _
  replace d4 := d4.trans d3
  replace M4 : Mw (bg [⟨g, T, 16, (stm s m)⟩]) [⟨g, T, 16, (upm (stm s m) 0 (.int .u64 (IntKind.u64.wrap (s 0 + rA n))))⟩] W4 := M4
  have F4 := Fr.comp F0 G4 (fun x hx => Or.inl (by simp at hx; subst hx; simp))
  clear F0 G4
  clear h3 d3 M0
  refine start_ (S := fun V => Mw (bg [⟨g, T, 16, (stm s m)⟩]) [⟨g, T, 16, (upm (stm s m) 0 (.int .u64 (IntKind.u64.wrap (s 0 + rA n))))⟩] V ∧ Fr [g] w V) (ds := [28]) (n := 29) _ (by kernel_rfl) rfl rfl ⟨M4.drew, F4.drew⟩ (fun hS0 => ?_)
  clear M4 F4
  refine segP (S := fun V => Mw (bg [⟨g, T, 16, (stm s m)⟩]) [⟨g, T, 16, (upm (stm s m) 0 (.int .u64 (IntKind.u64.wrap (s 0 + rA n))))⟩] V ∧ Fr [g] w V) (T := TT) (M := bm [⟨g, T, 16, (upm (stm s m) 0 (.int .u64 (IntKind.u64.wrap (s 0 + rA n))))⟩]) (N := 107) tabOk (fun V h => h.1.mem) (fun _ _ _ _ hd h => And.intro (hd.trans (And.left h)) (And.right h)) hS0 [0, 1, 2, 3, 4, 5, 6, 7, 8, 9, 10, 14, 15, 16, 17, 18, 19, 20, 21, 25, 26] 8 [(0, .p 0 0), (1, .v (.slice (some ⟨b, o, none⟩) n c)), (4, .v (.int .i64 (n : Int))), (5, .v (.int .i64 0)), (10, .v (.int .i64 0)), (30, .v (.int .i64 0)), (38, .v (.int .u32 (IntKind.u32.wrap ((s 4) / 4294967296)))), (39, .v (.int .i64 (n : Int))), (49, .v (.int .u32 (IntKind.u32.wrap (s 4)))), (50, .v (.int .i64 (n : Int))), (55, .p 0 4)] h4 (by kernel_rfl) (by kernel_rfl) ⟨by kernel_rfl, by kernel_rfl, by kernel_rfl, by kernel_rfl, by kernel_rfl, by kernel_rfl, by kernel_rfl, by kernel_rfl, by kernel_rfl, by kernel_rfl, by kernel_rfl, trivial⟩ (fun a5 h5 d5 => ?_)
  replace d5 := d5.trans d4
  clear h4 d4
  refine segC (S := fun V => Mw (bg [⟨g, T, 16, (stm s m)⟩]) [⟨g, T, 16, (upm (stm s m) 0 (.int .u64 (IntKind.u64.wrap (s 0 + rA n))))⟩] V ∧ Fr [g] w V) (N := 107) (j := 11) (d := 40) (f := 37) (v := .int .u32 (tv (IntKind.u32.wrap ((s 4) / 4294967296)) n)) (args := [.v (.int .u32 (IntKind.u32.wrap ((s 4) / 4294967296))), .v (.int .i64 (n : Int))]) hS0 h5 (by kernel_rfl) (by kernel_rfl) Tryd.func37 rfl rfl ((tv_walk (IntKind.u32.wrap ((s 4) / 4294967296)) n hn _).mono fun e W' hh => ⟨hh.1, hS0.1.onB hh.2, hS0.2.trans (Fr.ofBelow _ hh.2)⟩) (fun a6 Y6 h6 d6 hS1 => ?_)
  replace hS0 := hS1
  clear hS1
  replace d6 := d6.trans d5
  clear h5 d5
  replace h6 := sub_ok (E := [(0, .p 0 0), (1, .v (.slice (some ⟨b, o, none⟩) n c)), (4, .v (.int .i64 (n : Int))), (5, .v (.int .i64 0)), (10, .v (.int .i64 0)), (30, .v (.int .i64 0)), (38, .v (.int .u32 (IntKind.u32.wrap ((s 4) / 4294967296)))), (39, .v (.int .i64 (n : Int))), (40, .v (.int .u32 (tv (IntKind.u32.wrap ((s 4) / 4294967296)) n))), (49, .v (.int .u32 (IntKind.u32.wrap (s 4)))), (50, .v (.int .i64 (n : Int))), (55, .p 0 4)]) h6 ⟨by kernel_rfl, by kernel_rfl, by kernel_rfl, by kernel_rfl, by kernel_rfl, by kernel_rfl, by kernel_rfl, by kernel_rfl, by kernel_rfl, by kernel_rfl, by kernel_rfl, by kernel_rfl, trivial⟩
  refine segP (S := fun V => Mw (bg [⟨g, T, 16, (stm s m)⟩]) [⟨g, T, 16, (upm (stm s m) 0 (.int .u64 (IntKind.u64.wrap (s 0 + rA n))))⟩] V ∧ Fr [g] w V) (T := TT) (M := bm [⟨g, T, 16, (upm (stm s m) 0 (.int .u64 (IntKind.u64.wrap (s 0 + rA n))))⟩]) (N := 107) tabOk (fun V h => h.1.mem) (fun _ _ _ _ hd h => And.intro (hd.trans (And.left h)) (And.right h)) hS0 [12, 13] 5 [(0, .p 0 0), (1, .v (.slice (some ⟨b, o, none⟩) n c)), (4, .v (.int .i64 (n : Int))), (5, .v (.int .i64 0)), (10, .v (.int .i64 0)), (30, .v (.int .i64 0)), (38, .v (.int .u32 (IntKind.u32.wrap ((s 4) / 4294967296)))), (39, .v (.int .i64 (n : Int))), (42, .v (.int .u64 (IntKind.u64.wrap (IntKind.u64.wrap (tv (IntKind.u32.wrap ((s 4) / 4294967296)) n) * 4294967296)))), (49, .v (.int .u32 (IntKind.u32.wrap (s 4)))), (50, .v (.int .i64 (n : Int))), (55, .p 0 4)] h6 (by kernel_rfl) (by kernel_rfl) ⟨by kernel_rfl, by kernel_rfl, by kernel_rfl, by kernel_rfl, by kernel_rfl, by kernel_rfl, by kernel_rfl, by kernel_rfl, by kernel_rfl, by kernel_rfl, by kernel_rfl, by kernel_rfl, trivial⟩ (fun a7 h7 d7 => ?_)
  replace d7 := d7.trans d6
  clear h6 d6
  refine segC (S := fun V => Mw (bg [⟨g, T, 16, (stm s m)⟩]) [⟨g, T, 16, (upm (stm s m) 0 (.int .u64 (IntKind.u64.wrap (s 0 + rA n))))⟩] V ∧ Fr [g] w V) (N := 107) (j := 22) (d := 51) (f := 37) (v := .int .u32 (tv (IntKind.u32.wrap (s 4)) n)) (args := [.v (.int .u32 (IntKind.u32.wrap (s 4))), .v (.int .i64 (n : Int))]) hS0 h7 (by kernel_rfl) (by kernel_rfl) Tryd.func37 rfl rfl ((tv_walk (IntKind.u32.wrap (s 4)) n hn _).mono fun e W' hh => ⟨hh.1, hS0.1.onB hh.2, hS0.2.trans (Fr.ofBelow _ hh.2)⟩) (fun a8 Y8 h8 d8 hS1 => ?_)
  replace hS0 := hS1
  clear hS1
  replace d8 := d8.trans d7
  clear h7 d7
  replace h8 := sub_ok (E := [(0, .p 0 0), (1, .v (.slice (some ⟨b, o, none⟩) n c)), (4, .v (.int .i64 (n : Int))), (5, .v (.int .i64 0)), (10, .v (.int .i64 0)), (30, .v (.int .i64 0)), (38, .v (.int .u32 (IntKind.u32.wrap ((s 4) / 4294967296)))), (39, .v (.int .i64 (n : Int))), (42, .v (.int .u64 (IntKind.u64.wrap (IntKind.u64.wrap (tv (IntKind.u32.wrap ((s 4) / 4294967296)) n) * 4294967296)))), (49, .v (.int .u32 (IntKind.u32.wrap (s 4)))), (50, .v (.int .i64 (n : Int))), (51, .v (.int .u32 (tv (IntKind.u32.wrap (s 4)) n))), (55, .p 0 4)]) h8 ⟨by kernel_rfl, by kernel_rfl, by kernel_rfl, by kernel_rfl, by kernel_rfl, by kernel_rfl, by kernel_rfl, by kernel_rfl, by kernel_rfl, by kernel_rfl, by kernel_rfl, by kernel_rfl, by kernel_rfl, trivial⟩
  refine segP (S := fun V => Mw (bg [⟨g, T, 16, (stm s m)⟩]) [⟨g, T, 16, (upm (stm s m) 0 (.int .u64 (IntKind.u64.wrap (s 0 + rA n))))⟩] V ∧ Fr [g] w V) (T := TT) (M := bm [⟨g, T, 16, (upm (stm s m) 0 (.int .u64 (IntKind.u64.wrap (s 0 + rA n))))⟩]) (N := 107) tabOk (fun V h => h.1.mem) (fun _ _ _ _ hd h => And.intro (hd.trans (And.left h)) (And.right h)) hS0 [23, 24, 27] 1 [(0, .p 0 0), (1, .v (.slice (some ⟨b, o, none⟩) n c)), (4, .v (.int .i64 (n : Int))), (10, .v (.int .i64 0)), (53, .v (.int .u64 (rB (s 4) n))), (56, .p 0 4)] h8 (by kernel_rfl) (by kernel_rfl) ⟨by kernel_rfl, by kernel_rfl, by kernel_rfl, by kernel_rfl, by kernel_rfl, by kernel_rfl, trivial⟩ (fun a9 h9 d9 => ?_)
  replace d9 := d9.trans d8
  clear h8 d8
  obtain ⟨M9, F9⟩ := hS0
  refine lastM (N := 107) (n := 28) (k := 0) (i := 4) (u := .int .u64 (rB (s 4) n)) tabOk h9 M9 (by kernel_rfl) (by kernel_rfl) rfl (fun W10 M10 G10 => ?_)
  replace M10 : Mw (bg [⟨g, T, 16, (stm s m)⟩]) [⟨g, T, 16, (upm (upm (stm s m) 0 (.int .u64 (IntKind.u64.wrap (s 0 + rA n)))) 4 (.int .u64 (rB (s 4) n)))⟩] W10 := M10
  have F10 := Fr.comp F9 G10 (fun x hx => Or.inl (by simp at hx; subst hx; simp))
  clear M9 F9 G10
  replace h9 := sub_ok (E := [(0, .p 0 0), (1, .v (.slice (some ⟨b, o, none⟩) n c)), (4, .v (.int .i64 (n : Int))), (10, .v (.int .i64 0))]) h9 ⟨by kernel_rfl, by kernel_rfl, by kernel_rfl, by kernel_rfl, trivial⟩
  have h10 := h9
  have d10 := d9
  clear h9 d9
  refine regM_seq (N := 107) (T := TT) (n := 2) (E2 := [(0, .p 0 0), (1, .v (.slice (some ⟨b, o, none⟩) n c)), (4, .v (.int .i64 (n : Int))), (10, .v (.int .i64 1))]) tabOk h10 M10 rfl (by kernel_rfl) ⟨by kernel_rfl, by kernel_rfl, by kernel_rfl, by kernel_rfl, trivial⟩ (fun a11 h11 d11 => ?_)
  replace d11 := d11.trans d10
  clear h10 d10
  show Code.rounds _ _ _ _ _ _
  rw [rounds_succ]
  refine wp_seq ?_
  refine regM_seq (N := 107) (T := TT) (n := 1) (E2 := [(0, .p 0 0), (1, .v (.slice (some ⟨b, o, none⟩) n c)), (4, .v (.int .i64 (n : Int))), (10, .v (.int .i64 1)), (11, .v (.bool true))]) tabOk h11 M10 rfl (by kernel_rfl) ⟨by kernel_rfl, by kernel_rfl, by kernel_rfl, by kernel_rfl, by kernel_rfl, trivial⟩ (fun a12 h12 d12 => ?_)
  show Code.wp _ _ _ _ _
  replace d12 := d12.trans d11
  clear h11 d11
  refine wp_seq ?_
  refine wp_cond_true (h12.2 11 _ rfl) ?_
  refine wp_skip ?_
  show Code.wp _ _ _ _ _
  refine wp_seq ?_
  refine wp_block ?_
  refine wp_seq ?_
  refine regM_seq (N := 107) (T := TT) (n := 2) (E2 := [(0, .p 0 0), (1, .v (.slice (some ⟨b, o, none⟩) n c)), (4, .v (.int .i64 (n : Int))), (5, .v (.int .i64 1)), (10, .v (.int .i64 1))]) tabOk h12 M10 rfl (by kernel_rfl) ⟨by kernel_rfl, by kernel_rfl, by kernel_rfl, by kernel_rfl, by kernel_rfl, trivial⟩ (fun a13 h13 d13 => ?_)
  show Code.wp _ _ _ _ _
  replace d13 := d13.trans d12
  clear h12 d12
  refine wp_seq ?_
  refine regM_store (N := 107) (T := TT) (n := 16) (k := 0) (i := 1) (u := .int .u64 (IntKind.u64.wrap (s 1 + rA n))) (E2 := [(0, .p 0 0), (1, .v (.slice (some ⟨b, o, none⟩) n c)), (4, .v (.int .i64 (n : Int))), (5, .v (.int .i64 1)), (10, .v (.int .i64 1))]) (by kernel_rfl) tabOk h13 M10 rfl (by kernel_rfl) (by kernel_rfl) rfl ⟨by kernel_rfl, by kernel_rfl, by kernel_rfl, by kernel_rfl, by kernel_rfl, trivial⟩ (fun _ _ _ _ hd h => And.intro (hd.trans (And.left h)) (And.right h)) (fun a14 W14 h14 d14 M14 G14 => ?_)
  show Code.wp _ _ _ _ _
  replace d14 := d14.trans d13
  replace M14 : Mw (bg [⟨g, T, 16, (stm s m)⟩]) [⟨g, T, 16, (upm (upm (upm (stm s m) 0 (.int .u64 (IntKind.u64.wrap (s 0 + rA n)))) 4 (.int .u64 (rB (s 4) n))) 1 (.int .u64 (IntKind.u64.wrap (s 1 + rA n))))⟩] W14 := M14
  have F14 := Fr.comp F10 G14 (fun x hx => Or.inl (by simp at hx; subst hx; simp))
  clear F10 G14
  clear h13 d13 M10
  refine start_ (S := fun V => Mw (bg [⟨g, T, 16, (stm s m)⟩]) [⟨g, T, 16, (upm (upm (upm (stm s m) 0 (.int .u64 (IntKind.u64.wrap (s 0 + rA n)))) 4 (.int .u64 (rB (s 4) n))) 1 (.int .u64 (IntKind.u64.wrap (s 1 + rA n))))⟩] V ∧ Fr [g] w V) (ds := [28]) (n := 29) _ (by kernel_rfl) rfl rfl ⟨M14.drew, F14.drew⟩ (fun hS0 => ?_)
  clear M14 F14
  refine segP (S := fun V => Mw (bg [⟨g, T, 16, (stm s m)⟩]) [⟨g, T, 16, (upm (upm (upm (stm s m) 0 (.int .u64 (IntKind.u64.wrap (s 0 + rA n)))) 4 (.int .u64 (rB (s 4) n))) 1 (.int .u64 (IntKind.u64.wrap (s 1 + rA n))))⟩] V ∧ Fr [g] w V) (T := TT) (M := bm [⟨g, T, 16, (upm (upm (upm (stm s m) 0 (.int .u64 (IntKind.u64.wrap (s 0 + rA n)))) 4 (.int .u64 (rB (s 4) n))) 1 (.int .u64 (IntKind.u64.wrap (s 1 + rA n))))⟩]) (N := 107) tabOk (fun V h => h.1.mem) (fun _ _ _ _ hd h => And.intro (hd.trans (And.left h)) (And.right h)) hS0 [0, 1, 2, 3, 4, 5, 6, 7, 8, 9, 10, 14, 15, 16, 17, 18, 19, 20, 21, 25, 26] 8 [(0, .p 0 0), (1, .v (.slice (some ⟨b, o, none⟩) n c)), (4, .v (.int .i64 (n : Int))), (5, .v (.int .i64 1)), (10, .v (.int .i64 1)), (30, .v (.int .i64 1)), (38, .v (.int .u32 (IntKind.u32.wrap ((s 5) / 4294967296)))), (39, .v (.int .i64 (n : Int))), (49, .v (.int .u32 (IntKind.u32.wrap (s 5)))), (50, .v (.int .i64 (n : Int))), (55, .p 0 4)] h14 (by kernel_rfl) (by kernel_rfl) ⟨by kernel_rfl, by kernel_rfl, by kernel_rfl, by kernel_rfl, by kernel_rfl, by kernel_rfl, by kernel_rfl, by kernel_rfl, by kernel_rfl, by kernel_rfl, by kernel_rfl, trivial⟩ (fun a15 h15 d15 => ?_)
  replace d15 := d15.trans d14
  clear h14 d14
  refine segC (S := fun V => Mw (bg [⟨g, T, 16, (stm s m)⟩]) [⟨g, T, 16, (upm (upm (upm (stm s m) 0 (.int .u64 (IntKind.u64.wrap (s 0 + rA n)))) 4 (.int .u64 (rB (s 4) n))) 1 (.int .u64 (IntKind.u64.wrap (s 1 + rA n))))⟩] V ∧ Fr [g] w V) (N := 107) (j := 11) (d := 40) (f := 37) (v := .int .u32 (tv (IntKind.u32.wrap ((s 5) / 4294967296)) n)) (args := [.v (.int .u32 (IntKind.u32.wrap ((s 5) / 4294967296))), .v (.int .i64 (n : Int))]) hS0 h15 (by kernel_rfl) (by kernel_rfl) Tryd.func37 rfl rfl ((tv_walk (IntKind.u32.wrap ((s 5) / 4294967296)) n hn _).mono fun e W' hh => ⟨hh.1, hS0.1.onB hh.2, hS0.2.trans (Fr.ofBelow _ hh.2)⟩) (fun a16 Y16 h16 d16 hS1 => ?_)
  replace hS0 := hS1
  clear hS1
  replace d16 := d16.trans d15
  clear h15 d15
  replace h16 := sub_ok (E := [(0, .p 0 0), (1, .v (.slice (some ⟨b, o, none⟩) n c)), (4, .v (.int .i64 (n : Int))), (5, .v (.int .i64 1)), (10, .v (.int .i64 1)), (30, .v (.int .i64 1)), (38, .v (.int .u32 (IntKind.u32.wrap ((s 5) / 4294967296)))), (39, .v (.int .i64 (n : Int))), (40, .v (.int .u32 (tv (IntKind.u32.wrap ((s 5) / 4294967296)) n))), (49, .v (.int .u32 (IntKind.u32.wrap (s 5)))), (50, .v (.int .i64 (n : Int))), (55, .p 0 4)]) h16 ⟨by kernel_rfl, by kernel_rfl, by kernel_rfl, by kernel_rfl, by kernel_rfl, by kernel_rfl, by kernel_rfl, by kernel_rfl, by kernel_rfl, by kernel_rfl, by kernel_rfl, by kernel_rfl, trivial⟩
  refine segP (S := fun V => Mw (bg [⟨g, T, 16, (stm s m)⟩]) [⟨g, T, 16, (upm (upm (upm (stm s m) 0 (.int .u64 (IntKind.u64.wrap (s 0 + rA n)))) 4 (.int .u64 (rB (s 4) n))) 1 (.int .u64 (IntKind.u64.wrap (s 1 + rA n))))⟩] V ∧ Fr [g] w V) (T := TT) (M := bm [⟨g, T, 16, (upm (upm (upm (stm s m) 0 (.int .u64 (IntKind.u64.wrap (s 0 + rA n)))) 4 (.int .u64 (rB (s 4) n))) 1 (.int .u64 (IntKind.u64.wrap (s 1 + rA n))))⟩]) (N := 107) tabOk (fun V h => h.1.mem) (fun _ _ _ _ hd h => And.intro (hd.trans (And.left h)) (And.right h)) hS0 [12, 13] 5 [(0, .p 0 0), (1, .v (.slice (some ⟨b, o, none⟩) n c)), (4, .v (.int .i64 (n : Int))), (5, .v (.int .i64 1)), (10, .v (.int .i64 1)), (30, .v (.int .i64 1)), (38, .v (.int .u32 (IntKind.u32.wrap ((s 5) / 4294967296)))), (39, .v (.int .i64 (n : Int))), (42, .v (.int .u64 (IntKind.u64.wrap (IntKind.u64.wrap (tv (IntKind.u32.wrap ((s 5) / 4294967296)) n) * 4294967296)))), (49, .v (.int .u32 (IntKind.u32.wrap (s 5)))), (50, .v (.int .i64 (n : Int))), (55, .p 0 4)] h16 (by kernel_rfl) (by kernel_rfl) ⟨by kernel_rfl, by kernel_rfl, by kernel_rfl, by kernel_rfl, by kernel_rfl, by kernel_rfl, by kernel_rfl, by kernel_rfl, by kernel_rfl, by kernel_rfl, by kernel_rfl, by kernel_rfl, trivial⟩ (fun a17 h17 d17 => ?_)
  replace d17 := d17.trans d16
  clear h16 d16
  refine segC (S := fun V => Mw (bg [⟨g, T, 16, (stm s m)⟩]) [⟨g, T, 16, (upm (upm (upm (stm s m) 0 (.int .u64 (IntKind.u64.wrap (s 0 + rA n)))) 4 (.int .u64 (rB (s 4) n))) 1 (.int .u64 (IntKind.u64.wrap (s 1 + rA n))))⟩] V ∧ Fr [g] w V) (N := 107) (j := 22) (d := 51) (f := 37) (v := .int .u32 (tv (IntKind.u32.wrap (s 5)) n)) (args := [.v (.int .u32 (IntKind.u32.wrap (s 5))), .v (.int .i64 (n : Int))]) hS0 h17 (by kernel_rfl) (by kernel_rfl) Tryd.func37 rfl rfl ((tv_walk (IntKind.u32.wrap (s 5)) n hn _).mono fun e W' hh => ⟨hh.1, hS0.1.onB hh.2, hS0.2.trans (Fr.ofBelow _ hh.2)⟩) (fun a18 Y18 h18 d18 hS1 => ?_)
  replace hS0 := hS1
  clear hS1
  replace d18 := d18.trans d17
  clear h17 d17
  replace h18 := sub_ok (E := [(0, .p 0 0), (1, .v (.slice (some ⟨b, o, none⟩) n c)), (4, .v (.int .i64 (n : Int))), (5, .v (.int .i64 1)), (10, .v (.int .i64 1)), (30, .v (.int .i64 1)), (38, .v (.int .u32 (IntKind.u32.wrap ((s 5) / 4294967296)))), (39, .v (.int .i64 (n : Int))), (42, .v (.int .u64 (IntKind.u64.wrap (IntKind.u64.wrap (tv (IntKind.u32.wrap ((s 5) / 4294967296)) n) * 4294967296)))), (49, .v (.int .u32 (IntKind.u32.wrap (s 5)))), (50, .v (.int .i64 (n : Int))), (51, .v (.int .u32 (tv (IntKind.u32.wrap (s 5)) n))), (55, .p 0 4)]) h18 ⟨by kernel_rfl, by kernel_rfl, by kernel_rfl, by kernel_rfl, by kernel_rfl, by kernel_rfl, by kernel_rfl, by kernel_rfl, by kernel_rfl, by kernel_rfl, by kernel_rfl, by kernel_rfl, by kernel_rfl, trivial⟩
  refine segP (S := fun V => Mw (bg [⟨g, T, 16, (stm s m)⟩]) [⟨g, T, 16, (upm (upm (upm (stm s m) 0 (.int .u64 (IntKind.u64.wrap (s 0 + rA n)))) 4 (.int .u64 (rB (s 4) n))) 1 (.int .u64 (IntKind.u64.wrap (s 1 + rA n))))⟩] V ∧ Fr [g] w V) (T := TT) (M := bm [⟨g, T, 16, (upm (upm (upm (stm s m) 0 (.int .u64 (IntKind.u64.wrap (s 0 + rA n)))) 4 (.int .u64 (rB (s 4) n))) 1 (.int .u64 (IntKind.u64.wrap (s 1 + rA n))))⟩]) (N := 107) tabOk (fun V h => h.1.mem) (fun _ _ _ _ hd h => And.intro (hd.trans (And.left h)) (And.right h)) hS0 [23, 24, 27] 1 [(0, .p 0 0), (1, .v (.slice (some ⟨b, o, none⟩) n c)), (4, .v (.int .i64 (n : Int))), (10, .v (.int .i64 1)), (53, .v (.int .u64 (rB (s 5) n))), (56, .p 0 5)] h18 (by kernel_rfl) (by kernel_rfl) ⟨by kernel_rfl, by kernel_rfl, by kernel_rfl, by kernel_rfl, by kernel_rfl, by kernel_rfl, trivial⟩ (fun a19 h19 d19 => ?_)
  replace d19 := d19.trans d18
  clear h18 d18
  obtain ⟨M19, F19⟩ := hS0
  refine lastM (N := 107) (n := 28) (k := 0) (i := 5) (u := .int .u64 (rB (s 5) n)) tabOk h19 M19 (by kernel_rfl) (by kernel_rfl) rfl (fun W20 M20 G20 => ?_)
  replace M20 : Mw (bg [⟨g, T, 16, (stm s m)⟩]) [⟨g, T, 16, (upm (upm (upm (upm (stm s m) 0 (.int .u64 (IntKind.u64.wrap (s 0 + rA n)))) 4 (.int .u64 (rB (s 4) n))) 1 (.int .u64 (IntKind.u64.wrap (s 1 + rA n)))) 5 (.int .u64 (rB (s 5) n)))⟩] W20 := M20
  have F20 := Fr.comp F19 G20 (fun x hx => Or.inl (by simp at hx; subst hx; simp))
  clear M19 F19 G20
  replace h19 := sub_ok (E := [(0, .p 0 0), (1, .v (.slice (some ⟨b, o, none⟩) n c)), (4, .v (.int .i64 (n : Int))), (10, .v (.int .i64 1))]) h19 ⟨by kernel_rfl, by kernel_rfl, by kernel_rfl, by kernel_rfl, trivial⟩
  have h20 := h19
  have d20 := d19
  clear h19 d19
  refine regM_seq (N := 107) (T := TT) (n := 2) (E2 := [(0, .p 0 0), (1, .v (.slice (some ⟨b, o, none⟩) n c)), (4, .v (.int .i64 (n : Int))), (10, .v (.int .i64 2))]) tabOk h20 M20 rfl (by kernel_rfl) ⟨by kernel_rfl, by kernel_rfl, by kernel_rfl, by kernel_rfl, trivial⟩ (fun a21 h21 d21 => ?_)
  replace d21 := d21.trans d20
  clear h20 d20
  show Code.rounds _ _ _ _ _ _
  rw [rounds_succ]
  refine wp_seq ?_
  refine regM_seq (N := 107) (T := TT) (n := 1) (E2 := [(0, .p 0 0), (1, .v (.slice (some ⟨b, o, none⟩) n c)), (4, .v (.int .i64 (n : Int))), (10, .v (.int .i64 2)), (11, .v (.bool true))]) tabOk h21 M20 rfl (by kernel_rfl) ⟨by kernel_rfl, by kernel_rfl, by kernel_rfl, by kernel_rfl, by kernel_rfl, trivial⟩ (fun a22 h22 d22 => ?_)
  show Code.wp _ _ _ _ _
  replace d22 := d22.trans d21
  clear h21 d21
  refine wp_seq ?_
  refine wp_cond_true (h22.2 11 _ rfl) ?_
  refine wp_skip ?_
  show Code.wp _ _ _ _ _
  refine wp_seq ?_
  refine wp_block ?_
  refine wp_seq ?_
  refine regM_seq (N := 107) (T := TT) (n := 2) (E2 := [(0, .p 0 0), (1, .v (.slice (some ⟨b, o, none⟩) n c)), (4, .v (.int .i64 (n : Int))), (5, .v (.int .i64 2)), (10, .v (.int .i64 2))]) tabOk h22 M20 rfl (by kernel_rfl) ⟨by kernel_rfl, by kernel_rfl, by kernel_rfl, by kernel_rfl, by kernel_rfl, trivial⟩ (fun a23 h23 d23 => ?_)
  show Code.wp _ _ _ _ _
  replace d23 := d23.trans d22
  clear h22 d22
  refine wp_seq ?_
  refine regM_store (N := 107) (T := TT) (n := 16) (k := 0) (i := 2) (u := .int .u64 (IntKind.u64.wrap (s 2 + rA n))) (E2 := [(0, .p 0 0), (1, .v (.slice (some ⟨b, o, none⟩) n c)), (4, .v (.int .i64 (n : Int))), (5, .v (.int .i64 2)), (10, .v (.int .i64 2))]) (by kernel_rfl) tabOk h23 M20 rfl (by kernel_rfl) (by kernel_rfl) rfl ⟨by kernel_rfl, by kernel_rfl, by kernel_rfl, by kernel_rfl, by kernel_rfl, trivial⟩ (fun _ _ _ _ hd h => And.intro (hd.trans (And.left h)) (And.right h)) (fun a24 W24 h24 d24 M24 G24 => ?_)
  show Code.wp _ _ _ _ _
  replace d24 := d24.trans d23
  replace M24 : Mw (bg [⟨g, T, 16, (stm s m)⟩]) [⟨g, T, 16, (upm (upm (upm (upm (upm (stm s m) 0 (.int .u64 (IntKind.u64.wrap (s 0 + rA n)))) 4 (.int .u64 (rB (s 4) n))) 1 (.int .u64 (IntKind.u64.wrap (s 1 + rA n)))) 5 (.int .u64 (rB (s 5) n))) 2 (.int .u64 (IntKind.u64.wrap (s 2 + rA n))))⟩] W24 := M24
  have F24 := Fr.comp F20 G24 (fun x hx => Or.inl (by simp at hx; subst hx; simp))
  clear F20 G24
  clear h23 d23 M20
  refine start_ (S := fun V => Mw (bg [⟨g, T, 16, (stm s m)⟩]) [⟨g, T, 16, (upm (upm (upm (upm (upm (stm s m) 0 (.int .u64 (IntKind.u64.wrap (s 0 + rA n)))) 4 (.int .u64 (rB (s 4) n))) 1 (.int .u64 (IntKind.u64.wrap (s 1 + rA n)))) 5 (.int .u64 (rB (s 5) n))) 2 (.int .u64 (IntKind.u64.wrap (s 2 + rA n))))⟩] V ∧ Fr [g] w V) (ds := [28]) (n := 29) _ (by kernel_rfl) rfl rfl ⟨M24.drew, F24.drew⟩ (fun hS0 => ?_)
  clear M24 F24
  refine segP (S := fun V => Mw (bg [⟨g, T, 16, (stm s m)⟩]) [⟨g, T, 16, (upm (upm (upm (upm (upm (stm s m) 0 (.int .u64 (IntKind.u64.wrap (s 0 + rA n)))) 4 (.int .u64 (rB (s 4) n))) 1 (.int .u64 (IntKind.u64.wrap (s 1 + rA n)))) 5 (.int .u64 (rB (s 5) n))) 2 (.int .u64 (IntKind.u64.wrap (s 2 + rA n))))⟩] V ∧ Fr [g] w V) (T := TT) (M := bm [⟨g, T, 16, (upm (upm (upm (upm (upm (stm s m) 0 (.int .u64 (IntKind.u64.wrap (s 0 + rA n)))) 4 (.int .u64 (rB (s 4) n))) 1 (.int .u64 (IntKind.u64.wrap (s 1 + rA n)))) 5 (.int .u64 (rB (s 5) n))) 2 (.int .u64 (IntKind.u64.wrap (s 2 + rA n))))⟩]) (N := 107) tabOk (fun V h => h.1.mem) (fun _ _ _ _ hd h => And.intro (hd.trans (And.left h)) (And.right h)) hS0 [0, 1, 2, 3, 4, 5, 6, 7, 8, 9, 10, 14, 15, 16, 17, 18, 19, 20, 21, 25, 26] 8 [(0, .p 0 0), (1, .v (.slice (some ⟨b, o, none⟩) n c)), (4, .v (.int .i64 (n : Int))), (5, .v (.int .i64 2)), (10, .v (.int .i64 2)), (30, .v (.int .i64 2)), (38, .v (.int .u32 (IntKind.u32.wrap ((s 6) / 4294967296)))), (39, .v (.int .i64 (n : Int))), (49, .v (.int .u32 (IntKind.u32.wrap (s 6)))), (50, .v (.int .i64 (n : Int))), (55, .p 0 4)] h24 (by kernel_rfl) (by kernel_rfl) ⟨by kernel_rfl, by kernel_rfl, by kernel_rfl, by kernel_rfl, by kernel_rfl, by kernel_rfl, by kernel_rfl, by kernel_rfl, by kernel_rfl, by kernel_rfl, by kernel_rfl, trivial⟩ (fun a25 h25 d25 => ?_)
  replace d25 := d25.trans d24
  clear h24 d24
  refine segC (S := fun V => Mw (bg [⟨g, T, 16, (stm s m)⟩]) [⟨g, T, 16, (upm (upm (upm (upm (upm (stm s m) 0 (.int .u64 (IntKind.u64.wrap (s 0 + rA n)))) 4 (.int .u64 (rB (s 4) n))) 1 (.int .u64 (IntKind.u64.wrap (s 1 + rA n)))) 5 (.int .u64 (rB (s 5) n))) 2 (.int .u64 (IntKind.u64.wrap (s 2 + rA n))))⟩] V ∧ Fr [g] w V) (N := 107) (j := 11) (d := 40) (f := 37) (v := .int .u32 (tv (IntKind.u32.wrap ((s 6) / 4294967296)) n)) (args := [.v (.int .u32 (IntKind.u32.wrap ((s 6) / 4294967296))), .v (.int .i64 (n : Int))]) hS0 h25 (by kernel_rfl) (by kernel_rfl) Tryd.func37 rfl rfl ((tv_walk (IntKind.u32.wrap ((s 6) / 4294967296)) n hn _).mono fun e W' hh => ⟨hh.1, hS0.1.onB hh.2, hS0.2.trans (Fr.ofBelow _ hh.2)⟩) (fun a26 Y26 h26 d26 hS1 => ?_)
  replace hS0 := hS1
  clear hS1
  replace d26 := d26.trans d25
  clear h25 d25
  replace h26 := sub_ok (E := [(0, .p 0 0), (1, .v (.slice (some ⟨b, o, none⟩) n c)), (4, .v (.int .i64 (n : Int))), (5, .v (.int .i64 2)), (10, .v (.int .i64 2)), (30, .v (.int .i64 2)), (38, .v (.int .u32 (IntKind.u32.wrap ((s 6) / 4294967296)))), (39, .v (.int .i64 (n : Int))), (40, .v (.int .u32 (tv (IntKind.u32.wrap ((s 6) / 4294967296)) n))), (49, .v (.int .u32 (IntKind.u32.wrap (s 6)))), (50, .v (.int .i64 (n : Int))), (55, .p 0 4)]) h26 ⟨by kernel_rfl, by kernel_rfl, by kernel_rfl, by kernel_rfl, by kernel_rfl, by kernel_rfl, by kernel_rfl, by kernel_rfl, by kernel_rfl, by kernel_rfl, by kernel_rfl, by kernel_rfl, trivial⟩
  refine segP (S := fun V => Mw (bg [⟨g, T, 16, (stm s m)⟩]) [⟨g, T, 16, (upm (upm (upm (upm (upm (stm s m) 0 (.int .u64 (IntKind.u64.wrap (s 0 + rA n)))) 4 (.int .u64 (rB (s 4) n))) 1 (.int .u64 (IntKind.u64.wrap (s 1 + rA n)))) 5 (.int .u64 (rB (s 5) n))) 2 (.int .u64 (IntKind.u64.wrap (s 2 + rA n))))⟩] V ∧ Fr [g] w V) (T := TT) (M := bm [⟨g, T, 16, (upm (upm (upm (upm (upm (stm s m) 0 (.int .u64 (IntKind.u64.wrap (s 0 + rA n)))) 4 (.int .u64 (rB (s 4) n))) 1 (.int .u64 (IntKind.u64.wrap (s 1 + rA n)))) 5 (.int .u64 (rB (s 5) n))) 2 (.int .u64 (IntKind.u64.wrap (s 2 + rA n))))⟩]) (N := 107) tabOk (fun V h => h.1.mem) (fun _ _ _ _ hd h => And.intro (hd.trans (And.left h)) (And.right h)) hS0 [12, 13] 5 [(0, .p 0 0), (1, .v (.slice (some ⟨b, o, none⟩) n c)), (4, .v (.int .i64 (n : Int))), (5, .v (.int .i64 2)), (10, .v (.int .i64 2)), (30, .v (.int .i64 2)), (38, .v (.int .u32 (IntKind.u32.wrap ((s 6) / 4294967296)))), (39, .v (.int .i64 (n : Int))), (42, .v (.int .u64 (IntKind.u64.wrap (IntKind.u64.wrap (tv (IntKind.u32.wrap ((s 6) / 4294967296)) n) * 4294967296)))), (49, .v (.int .u32 (IntKind.u32.wrap (s 6)))), (50, .v (.int .i64 (n : Int))), (55, .p 0 4)] h26 (by kernel_rfl) (by kernel_rfl) ⟨by kernel_rfl, by kernel_rfl, by kernel_rfl, by kernel_rfl, by kernel_rfl, by kernel_rfl, by kernel_rfl, by kernel_rfl, by kernel_rfl, by kernel_rfl, by kernel_rfl, by kernel_rfl, trivial⟩ (fun a27 h27 d27 => ?_)
  replace d27 := d27.trans d26
  clear h26 d26
  refine segC (S := fun V => Mw (bg [⟨g, T, 16, (stm s m)⟩]) [⟨g, T, 16, (upm (upm (upm (upm (upm (stm s m) 0 (.int .u64 (IntKind.u64.wrap (s 0 + rA n)))) 4 (.int .u64 (rB (s 4) n))) 1 (.int .u64 (IntKind.u64.wrap (s 1 + rA n)))) 5 (.int .u64 (rB (s 5) n))) 2 (.int .u64 (IntKind.u64.wrap (s 2 + rA n))))⟩] V ∧ Fr [g] w V) (N := 107) (j := 22) (d := 51) (f := 37) (v := .int .u32 (tv (IntKind.u32.wrap (s 6)) n)) (args := [.v (.int .u32 (IntKind.u32.wrap (s 6))), .v (.int .i64 (n : Int))]) hS0 h27 (by kernel_rfl) (by kernel_rfl) Tryd.func37 rfl rfl ((tv_walk (IntKind.u32.wrap (s 6)) n hn _).mono fun e W' hh => ⟨hh.1, hS0.1.onB hh.2, hS0.2.trans (Fr.ofBelow _ hh.2)⟩) (fun a28 Y28 h28 d28 hS1 => ?_)
  replace hS0 := hS1
  clear hS1
  replace d28 := d28.trans d27
  clear h27 d27
  replace h28 := sub_ok (E := [(0, .p 0 0), (1, .v (.slice (some ⟨b, o, none⟩) n c)), (4, .v (.int .i64 (n : Int))), (5, .v (.int .i64 2)), (10, .v (.int .i64 2)), (30, .v (.int .i64 2)), (38, .v (.int .u32 (IntKind.u32.wrap ((s 6) / 4294967296)))), (39, .v (.int .i64 (n : Int))), (42, .v (.int .u64 (IntKind.u64.wrap (IntKind.u64.wrap (tv (IntKind.u32.wrap ((s 6) / 4294967296)) n) * 4294967296)))), (49, .v (.int .u32 (IntKind.u32.wrap (s 6)))), (50, .v (.int .i64 (n : Int))), (51, .v (.int .u32 (tv (IntKind.u32.wrap (s 6)) n))), (55, .p 0 4)]) h28 ⟨by kernel_rfl, by kernel_rfl, by kernel_rfl, by kernel_rfl, by kernel_rfl, by kernel_rfl, by kernel_rfl, by kernel_rfl, by kernel_rfl, by kernel_rfl, by kernel_rfl, by kernel_rfl, by kernel_rfl, trivial⟩
  refine segP (S := fun V => Mw (bg [⟨g, T, 16, (stm s m)⟩]) [⟨g, T, 16, (upm (upm (upm (upm (upm (stm s m) 0 (.int .u64 (IntKind.u64.wrap (s 0 + rA n)))) 4 (.int .u64 (rB (s 4) n))) 1 (.int .u64 (IntKind.u64.wrap (s 1 + rA n)))) 5 (.int .u64 (rB (s 5) n))) 2 (.int .u64 (IntKind.u64.wrap (s 2 + rA n))))⟩] V ∧ Fr [g] w V) (T := TT) (M := bm [⟨g, T, 16, (upm (upm (upm (upm (upm (stm s m) 0 (.int .u64 (IntKind.u64.wrap (s 0 + rA n)))) 4 (.int .u64 (rB (s 4) n))) 1 (.int .u64 (IntKind.u64.wrap (s 1 + rA n)))) 5 (.int .u64 (rB (s 5) n))) 2 (.int .u64 (IntKind.u64.wrap (s 2 + rA n))))⟩]) (N := 107) tabOk (fun V h => h.1.mem) (fun _ _ _ _ hd h => And.intro (hd.trans (And.left h)) (And.right h)) hS0 [23, 24, 27] 1 [(0, .p 0 0), (1, .v (.slice (some ⟨b, o, none⟩) n c)), (4, .v (.int .i64 (n : Int))), (10, .v (.int .i64 2)), (53, .v (.int .u64 (rB (s 6) n))), (56, .p 0 6)] h28 (by kernel_rfl) (by kernel_rfl) ⟨by kernel_rfl, by kernel_rfl, by kernel_rfl, by kernel_rfl, by kernel_rfl, by kernel_rfl, trivial⟩ (fun a29 h29 d29 => ?_)
  replace d29 := d29.trans d28
  clear h28 d28
  obtain ⟨M29, F29⟩ := hS0
  refine lastM (N := 107) (n := 28) (k := 0) (i := 6) (u := .int .u64 (rB (s 6) n)) tabOk h29 M29 (by kernel_rfl) (by kernel_rfl) rfl (fun W30 M30 G30 => ?_)
  replace M30 : Mw (bg [⟨g, T, 16, (stm s m)⟩]) [⟨g, T, 16, (upm (upm (upm (upm (upm (upm (stm s m) 0 (.int .u64 (IntKind.u64.wrap (s 0 + rA n)))) 4 (.int .u64 (rB (s 4) n))) 1 (.int .u64 (IntKind.u64.wrap (s 1 + rA n)))) 5 (.int .u64 (rB (s 5) n))) 2 (.int .u64 (IntKind.u64.wrap (s 2 + rA n)))) 6 (.int .u64 (rB (s 6) n)))⟩] W30 := M30
  have F30 := Fr.comp F29 G30 (fun x hx => Or.inl (by simp at hx; subst hx; simp))
  clear M29 F29 G30
  replace h29 := sub_ok (E := [(0, .p 0 0), (1, .v (.slice (some ⟨b, o, none⟩) n c)), (4, .v (.int .i64 (n : Int))), (10, .v (.int .i64 2))]) h29 ⟨by kernel_rfl, by kernel_rfl, by kernel_rfl, by kernel_rfl, trivial⟩
  have h30 := h29
  have d30 := d29
  clear h29 d29
  refine regM_seq (N := 107) (T := TT) (n := 2) (E2 := [(0, .p 0 0), (1, .v (.slice (some ⟨b, o, none⟩) n c)), (4, .v (.int .i64 (n : Int))), (10, .v (.int .i64 3))]) tabOk h30 M30 rfl (by kernel_rfl) ⟨by kernel_rfl, by kernel_rfl, by kernel_rfl, by kernel_rfl, trivial⟩ (fun a31 h31 d31 => ?_)
  replace d31 := d31.trans d30
  clear h30 d30
  show Code.rounds _ _ _ _ _ _
  rw [rounds_succ]
  refine wp_seq ?_
  refine regM_seq (N := 107) (T := TT) (n := 1) (E2 := [(0, .p 0 0), (1, .v (.slice (some ⟨b, o, none⟩) n c)), (4, .v (.int .i64 (n : Int))), (10, .v (.int .i64 3)), (11, .v (.bool true))]) tabOk h31 M30 rfl (by kernel_rfl) ⟨by kernel_rfl, by kernel_rfl, by kernel_rfl, by kernel_rfl, by kernel_rfl, trivial⟩ (fun a32 h32 d32 => ?_)
  show Code.wp _ _ _ _ _
  replace d32 := d32.trans d31
  clear h31 d31
  refine wp_seq ?_
  refine wp_cond_true (h32.2 11 _ rfl) ?_
  refine wp_skip ?_
  show Code.wp _ _ _ _ _
  refine wp_seq ?_
  refine wp_block ?_
  refine wp_seq ?_
  refine regM_seq (N := 107) (T := TT) (n := 2) (E2 := [(0, .p 0 0), (1, .v (.slice (some ⟨b, o, none⟩) n c)), (4, .v (.int .i64 (n : Int))), (5, .v (.int .i64 3)), (10, .v (.int .i64 3))]) tabOk h32 M30 rfl (by kernel_rfl) ⟨by kernel_rfl, by kernel_rfl, by kernel_rfl, by kernel_rfl, by kernel_rfl, trivial⟩ (fun a33 h33 d33 => ?_)
  show Code.wp _ _ _ _ _
  replace d33 := d33.trans d32
  clear h32 d32
  refine wp_seq ?_
  refine regM_store (N := 107) (T := TT) (n := 16) (k := 0) (i := 3) (u := .int .u64 (IntKind.u64.wrap (s 3 + rA n))) (E2 := [(0, .p 0 0), (1, .v (.slice (some ⟨b, o, none⟩) n c)), (4, .v (.int .i64 (n : Int))), (5, .v (.int .i64 3)), (10, .v (.int .i64 3))]) (by kernel_rfl) tabOk h33 M30 rfl (by kernel_rfl) (by kernel_rfl) rfl ⟨by kernel_rfl, by kernel_rfl, by kernel_rfl, by kernel_rfl, by kernel_rfl, trivial⟩ (fun _ _ _ _ hd h => And.intro (hd.trans (And.left h)) (And.right h)) (fun a34 W34 h34 d34 M34 G34 => ?_)
  show Code.wp _ _ _ _ _
  replace d34 := d34.trans d33
  replace M34 : Mw (bg [⟨g, T, 16, (stm s m)⟩]) [⟨g, T, 16, (upm (upm (upm (upm (upm (upm (upm (stm s m) 0 (.int .u64 (IntKind.u64.wrap (s 0 + rA n)))) 4 (.int .u64 (rB (s 4) n))) 1 (.int .u64 (IntKind.u64.wrap (s 1 + rA n)))) 5 (.int .u64 (rB (s 5) n))) 2 (.int .u64 (IntKind.u64.wrap (s 2 + rA n)))) 6 (.int .u64 (rB (s 6) n))) 3 (.int .u64 (IntKind.u64.wrap (s 3 + rA n))))⟩] W34 := M34
  have F34 := Fr.comp F30 G34 (fun x hx => Or.inl (by simp at hx; subst hx; simp))
  clear F30 G34
  clear h33 d33 M30
  refine start_ (S := fun V => Mw (bg [⟨g, T, 16, (stm s m)⟩]) [⟨g, T, 16, (upm (upm (upm (upm (upm (upm (upm (stm s m) 0 (.int .u64 (IntKind.u64.wrap (s 0 + rA n)))) 4 (.int .u64 (rB (s 4) n))) 1 (.int .u64 (IntKind.u64.wrap (s 1 + rA n)))) 5 (.int .u64 (rB (s 5) n))) 2 (.int .u64 (IntKind.u64.wrap (s 2 + rA n)))) 6 (.int .u64 (rB (s 6) n))) 3 (.int .u64 (IntKind.u64.wrap (s 3 + rA n))))⟩] V ∧ Fr [g] w V) (ds := [28]) (n := 29) _ (by kernel_rfl) rfl rfl ⟨M34.drew, F34.drew⟩ (fun hS0 => ?_)
  clear M34 F34
  refine segP (S := fun V => Mw (bg [⟨g, T, 16, (stm s m)⟩]) [⟨g, T, 16, (upm (upm (upm (upm (upm (upm (upm (stm s m) 0 (.int .u64 (IntKind.u64.wrap (s 0 + rA n)))) 4 (.int .u64 (rB (s 4) n))) 1 (.int .u64 (IntKind.u64.wrap (s 1 + rA n)))) 5 (.int .u64 (rB (s 5) n))) 2 (.int .u64 (IntKind.u64.wrap (s 2 + rA n)))) 6 (.int .u64 (rB (s 6) n))) 3 (.int .u64 (IntKind.u64.wrap (s 3 + rA n))))⟩] V ∧ Fr [g] w V) (T := TT) (M := bm [⟨g, T, 16, (upm (upm (upm (upm (upm (upm (upm (stm s m) 0 (.int .u64 (IntKind.u64.wrap (s 0 + rA n)))) 4 (.int .u64 (rB (s 4) n))) 1 (.int .u64 (IntKind.u64.wrap (s 1 + rA n)))) 5 (.int .u64 (rB (s 5) n))) 2 (.int .u64 (IntKind.u64.wrap (s 2 + rA n)))) 6 (.int .u64 (rB (s 6) n))) 3 (.int .u64 (IntKind.u64.wrap (s 3 + rA n))))⟩]) (N := 107) tabOk (fun V h => h.1.mem) (fun _ _ _ _ hd h => And.intro (hd.trans (And.left h)) (And.right h)) hS0 [0, 1, 2, 3, 4, 5, 6, 7, 8, 9, 10, 14, 15, 16, 17, 18, 19, 20, 21, 25, 26] 8 [(0, .p 0 0), (1, .v (.slice (some ⟨b, o, none⟩) n c)), (4, .v (.int .i64 (n : Int))), (5, .v (.int .i64 3)), (10, .v (.int .i64 3)), (30, .v (.int .i64 3)), (38, .v (.int .u32 (IntKind.u32.wrap ((s 7) / 4294967296)))), (39, .v (.int .i64 (n : Int))), (49, .v (.int .u32 (IntKind.u32.wrap (s 7)))), (50, .v (.int .i64 (n : Int))), (55, .p 0 4)] h34 (by kernel_rfl) (by kernel_rfl) ⟨by kernel_rfl, by kernel_rfl, by kernel_rfl, by kernel_rfl, by kernel_rfl, by kernel_rfl, by kernel_rfl, by kernel_rfl, by kernel_rfl, by kernel_rfl, by kernel_rfl, trivial⟩ (fun a35 h35 d35 => ?_)
  replace d35 := d35.trans d34
  clear h34 d34
  refine segC (S := fun V => Mw (bg [⟨g, T, 16, (stm s m)⟩]) [⟨g, T, 16, (upm (upm (upm (upm (upm (upm (upm (stm s m) 0 (.int .u64 (IntKind.u64.wrap (s 0 + rA n)))) 4 (.int .u64 (rB (s 4) n))) 1 (.int .u64 (IntKind.u64.wrap (s 1 + rA n)))) 5 (.int .u64 (rB (s 5) n))) 2 (.int .u64 (IntKind.u64.wrap (s 2 + rA n)))) 6 (.int .u64 (rB (s 6) n))) 3 (.int .u64 (IntKind.u64.wrap (s 3 + rA n))))⟩] V ∧ Fr [g] w V) (N := 107) (j := 11) (d := 40) (f := 37) (v := .int .u32 (tv (IntKind.u32.wrap ((s 7) / 4294967296)) n)) (args := [.v (.int .u32 (IntKind.u32.wrap ((s 7) / 4294967296))), .v (.int .i64 (n : Int))]) hS0 h35 (by kernel_rfl) (by kernel_rfl) Tryd.func37 rfl rfl ((tv_walk (IntKind.u32.wrap ((s 7) / 4294967296)) n hn _).mono fun e W' hh => ⟨hh.1, hS0.1.onB hh.2, hS0.2.trans (Fr.ofBelow _ hh.2)⟩) (fun a36 Y36 h36 d36 hS1 => ?_)
  replace hS0 := hS1
  clear hS1
  replace d36 := d36.trans d35
  clear h35 d35
  replace h36 := sub_ok (E := [(0, .p 0 0), (1, .v (.slice (some ⟨b, o, none⟩) n c)), (4, .v (.int .i64 (n : Int))), (5, .v (.int .i64 3)), (10, .v (.int .i64 3)), (30, .v (.int .i64 3)), (38, .v (.int .u32 (IntKind.u32.wrap ((s 7) / 4294967296)))), (39, .v (.int .i64 (n : Int))), (40, .v (.int .u32 (tv (IntKind.u32.wrap ((s 7) / 4294967296)) n))), (49, .v (.int .u32 (IntKind.u32.wrap (s 7)))), (50, .v (.int .i64 (n : Int))), (55, .p 0 4)]) h36 ⟨by kernel_rfl, by kernel_rfl, by kernel_rfl, by kernel_rfl, by kernel_rfl, by kernel_rfl, by kernel_rfl, by kernel_rfl, by kernel_rfl, by kernel_rfl, by kernel_rfl, by kernel_rfl, trivial⟩
  refine segP (S := fun V => Mw (bg [⟨g, T, 16, (stm s m)⟩]) [⟨g, T, 16, (upm (upm (upm (upm (upm (upm (upm (stm s m) 0 (.int .u64 (IntKind.u64.wrap (s 0 + rA n)))) 4 (.int .u64 (rB (s 4) n))) 1 (.int .u64 (IntKind.u64.wrap (s 1 + rA n)))) 5 (.int .u64 (rB (s 5) n))) 2 (.int .u64 (IntKind.u64.wrap (s 2 + rA n)))) 6 (.int .u64 (rB (s 6) n))) 3 (.int .u64 (IntKind.u64.wrap (s 3 + rA n))))⟩] V ∧ Fr [g] w V) (T := TT) (M := bm [⟨g, T, 16, (upm (upm (upm (upm (upm (upm (upm (stm s m) 0 (.int .u64 (IntKind.u64.wrap (s 0 + rA n)))) 4 (.int .u64 (rB (s 4) n))) 1 (.int .u64 (IntKind.u64.wrap (s 1 + rA n)))) 5 (.int .u64 (rB (s 5) n))) 2 (.int .u64 (IntKind.u64.wrap (s 2 + rA n)))) 6 (.int .u64 (rB (s 6) n))) 3 (.int .u64 (IntKind.u64.wrap (s 3 + rA n))))⟩]) (N := 107) tabOk (fun V h => h.1.mem) (fun _ _ _ _ hd h => And.intro (hd.trans (And.left h)) (And.right h)) hS0 [12, 13] 5 [(0, .p 0 0), (1, .v (.slice (some ⟨b, o, none⟩) n c)), (4, .v (.int .i64 (n : Int))), (5, .v (.int .i64 3)), (10, .v (.int .i64 3)), (30, .v (.int .i64 3)), (38, .v (.int .u32 (IntKind.u32.wrap ((s 7) / 4294967296)))), (39, .v (.int .i64 (n : Int))), (42, .v (.int .u64 (IntKind.u64.wrap (IntKind.u64.wrap (tv (IntKind.u32.wrap ((s 7) / 4294967296)) n) * 4294967296)))), (49, .v (.int .u32 (IntKind.u32.wrap (s 7)))), (50, .v (.int .i64 (n : Int))), (55, .p 0 4)] h36 (by kernel_rfl) (by kernel_rfl) ⟨by kernel_rfl, by kernel_rfl, by kernel_rfl, by kernel_rfl, by kernel_rfl, by kernel_rfl, by kernel_rfl, by kernel_rfl, by kernel_rfl, by kernel_rfl, by kernel_rfl, by kernel_rfl, trivial⟩ (fun a37 h37 d37 => ?_)
  replace d37 := d37.trans d36
  clear h36 d36
  refine segC (S := fun V => Mw (bg [⟨g, T, 16, (stm s m)⟩]) [⟨g, T, 16, (upm (upm (upm (upm (upm (upm (upm (stm s m) 0 (.int .u64 (IntKind.u64.wrap (s 0 + rA n)))) 4 (.int .u64 (rB (s 4) n))) 1 (.int .u64 (IntKind.u64.wrap (s 1 + rA n)))) 5 (.int .u64 (rB (s 5) n))) 2 (.int .u64 (IntKind.u64.wrap (s 2 + rA n)))) 6 (.int .u64 (rB (s 6) n))) 3 (.int .u64 (IntKind.u64.wrap (s 3 + rA n))))⟩] V ∧ Fr [g] w V) (N := 107) (j := 22) (d := 51) (f := 37) (v := .int .u32 (tv (IntKind.u32.wrap (s 7)) n)) (args := [.v (.int .u32 (IntKind.u32.wrap (s 7))), .v (.int .i64 (n : Int))]) hS0 h37 (by kernel_rfl) (by kernel_rfl) Tryd.func37 rfl rfl ((tv_walk (IntKind.u32.wrap (s 7)) n hn _).mono fun e W' hh => ⟨hh.1, hS0.1.onB hh.2, hS0.2.trans (Fr.ofBelow _ hh.2)⟩) (fun a38 Y38 h38 d38 hS1 => ?_)
  replace hS0 := hS1
  clear hS1
  replace d38 := d38.trans d37
  clear h37 d37
  replace h38 := sub_ok (E := [(0, .p 0 0), (1, .v (.slice (some ⟨b, o, none⟩) n c)), (4, .v (.int .i64 (n : Int))), (5, .v (.int .i64 3)), (10, .v (.int .i64 3)), (30, .v (.int .i64 3)), (38, .v (.int .u32 (IntKind.u32.wrap ((s 7) / 4294967296)))), (39, .v (.int .i64 (n : Int))), (42, .v (.int .u64 (IntKind.u64.wrap (IntKind.u64.wrap (tv (IntKind.u32.wrap ((s 7) / 4294967296)) n) * 4294967296)))), (49, .v (.int .u32 (IntKind.u32.wrap (s 7)))), (50, .v (.int .i64 (n : Int))), (51, .v (.int .u32 (tv (IntKind.u32.wrap (s 7)) n))), (55, .p 0 4)]) h38 ⟨by kernel_rfl, by kernel_rfl, by kernel_rfl, by kernel_rfl, by kernel_rfl, by kernel_rfl, by kernel_rfl, by kernel_rfl, by kernel_rfl, by kernel_rfl, by kernel_rfl, by kernel_rfl, by kernel_rfl, trivial⟩
  refine segP (S := fun V => Mw (bg [⟨g, T, 16, (stm s m)⟩]) [⟨g, T, 16, (upm (upm (upm (upm (upm (upm (upm (stm s m) 0 (.int .u64 (IntKind.u64.wrap (s 0 + rA n)))) 4 (.int .u64 (rB (s 4) n))) 1 (.int .u64 (IntKind.u64.wrap (s 1 + rA n)))) 5 (.int .u64 (rB (s 5) n))) 2 (.int .u64 (IntKind.u64.wrap (s 2 + rA n)))) 6 (.int .u64 (rB (s 6) n))) 3 (.int .u64 (IntKind.u64.wrap (s 3 + rA n))))⟩] V ∧ Fr [g] w V) (T := TT) (M := bm [⟨g, T, 16, (upm (upm (upm (upm (upm (upm (upm (stm s m) 0 (.int .u64 (IntKind.u64.wrap (s 0 + rA n)))) 4 (.int .u64 (rB (s 4) n))) 1 (.int .u64 (IntKind.u64.wrap (s 1 + rA n)))) 5 (.int .u64 (rB (s 5) n))) 2 (.int .u64 (IntKind.u64.wrap (s 2 + rA n)))) 6 (.int .u64 (rB (s 6) n))) 3 (.int .u64 (IntKind.u64.wrap (s 3 + rA n))))⟩]) (N := 107) tabOk (fun V h => h.1.mem) (fun _ _ _ _ hd h => And.intro (hd.trans (And.left h)) (And.right h)) hS0 [23, 24, 27] 1 [(0, .p 0 0), (1, .v (.slice (some ⟨b, o, none⟩) n c)), (4, .v (.int .i64 (n : Int))), (10, .v (.int .i64 3)), (53, .v (.int .u64 (rB (s 7) n))), (56, .p 0 7)] h38 (by kernel_rfl) (by kernel_rfl) ⟨by kernel_rfl, by kernel_rfl, by kernel_rfl, by kernel_rfl, by kernel_rfl, by kernel_rfl, trivial⟩ (fun a39 h39 d39 => ?_)
  replace d39 := d39.trans d38
  clear h38 d38
  obtain ⟨M39, F39⟩ := hS0
  refine lastM (N := 107) (n := 28) (k := 0) (i := 7) (u := .int .u64 (rB (s 7) n)) tabOk h39 M39 (by kernel_rfl) (by kernel_rfl) rfl (fun W40 M40 G40 => ?_)
  replace M40 : Mw (bg [⟨g, T, 16, (stm s m)⟩]) [⟨g, T, 16, (upm (upm (upm (upm (upm (upm (upm (upm (stm s m) 0 (.int .u64 (IntKind.u64.wrap (s 0 + rA n)))) 4 (.int .u64 (rB (s 4) n))) 1 (.int .u64 (IntKind.u64.wrap (s 1 + rA n)))) 5 (.int .u64 (rB (s 5) n))) 2 (.int .u64 (IntKind.u64.wrap (s 2 + rA n)))) 6 (.int .u64 (rB (s 6) n))) 3 (.int .u64 (IntKind.u64.wrap (s 3 + rA n)))) 7 (.int .u64 (rB (s 7) n)))⟩] W40 := M40
  have F40 := Fr.comp F39 G40 (fun x hx => Or.inl (by simp at hx; subst hx; simp))
  clear M39 F39 G40
  replace h39 := sub_ok (E := [(0, .p 0 0), (1, .v (.slice (some ⟨b, o, none⟩) n c)), (4, .v (.int .i64 (n : Int))), (10, .v (.int .i64 3))]) h39 ⟨by kernel_rfl, by kernel_rfl, by kernel_rfl, by kernel_rfl, trivial⟩
  have h40 := h39
  have d40 := d39
  clear h39 d39
  refine regM_seq (N := 107) (T := TT) (n := 2) (E2 := [(0, .p 0 0), (1, .v (.slice (some ⟨b, o, none⟩) n c)), (4, .v (.int .i64 (n : Int))), (10, .v (.int .i64 4))]) tabOk h40 M40 rfl (by kernel_rfl) ⟨by kernel_rfl, by kernel_rfl, by kernel_rfl, by kernel_rfl, trivial⟩ (fun a41 h41 d41 => ?_)
  replace d41 := d41.trans d40
  clear h40 d40
  show Code.rounds _ _ _ _ _ _
  rw [rounds_succ]
  refine wp_seq ?_
  refine regM_seq (N := 107) (T := TT) (n := 1) (E2 := [(0, .p 0 0), (1, .v (.slice (some ⟨b, o, none⟩) n c)), (4, .v (.int .i64 (n : Int))), (10, .v (.int .i64 4)), (11, .v (.bool false))]) tabOk h41 M40 rfl (by kernel_rfl) ⟨by kernel_rfl, by kernel_rfl, by kernel_rfl, by kernel_rfl, by kernel_rfl, trivial⟩ (fun a42 h42 d42 => ?_)
  show Code.wp _ _ _ _ _
  replace d42 := d42.trans d41
  clear h41 d41
  refine wp_seq ?_
  refine wp_cond_false (h42.2 11 _ rfl) ?_
  refine wp_exit ?_
  refine then_exit (then_exit (exit_in ?_))
  replace h42 := sub_ok (E := [(0, .p 0 0), (1, .v (.slice (some ⟨b, o, none⟩) n c)), (4, .v (.int .i64 (n : Int)))]) h42 ⟨by kernel_rfl, by kernel_rfl, by kernel_rfl, trivial⟩
  have M9 : Mw (bg [⟨g, T, 16, stm s m⟩]) [⟨g, T, 16, stm (trR s n) m⟩] W40 := Mw.eqs M40 (fun i hi => (trR_fin s n m i hi))
  exact hK _ _ (M9.2.get (k := 0) rfl) F40 (h42.2 0 _ rfl) (h42.2 1 _ rfl) (h42.2 4 _ rfl) h42.1 d42
set_option maxHeartbeats 8000000 in
set_option maxRecDepth 100000 in
theorem rem_mid (g T b o n c : Nat) (s x : Nat → Int) (m : Nat → Value) (w W0 : World) (a0 : Act) (hn : n < 32) (h0n : 0 < n) (hc : n ≤ c) (hg : g < w.heap.size) (hb : b < w.heap.size) (ho : Oct n x) (BT : Bts b o n x W0) (hs : (⟨g, T, 16, stm (trR s n) m⟩ : Bl).In W0) (F0 : Fr [g] w W0)
    (e0 : a0.eval (.tmp 0) = .pointer (some ⟨g, 0, none⟩)) (e1 : a0.eval (.tmp 1) = .slice (some ⟨b, o, none⟩) n c) (e4 : a0.eval (.tmp 4) = .int .i64 (n : Int)) (hz : a0.tmps.size = 107) (d0 : a0.defers = []) : Code.wp Tryd.prog rem7 (bodyPost Tryd.prog Tryd.f22 fun e w' => e = .returned (.tuple #[]) ∧ (⟨g, T, 16, stm (remS s n x) m⟩ : Bl).In w' ∧ Fr [g] w w') a0 W0 := by
  have hA := has_list (β := bg [⟨g, T, 16, stm (trR s n) m⟩]) hz (E := [(0, .p 0 0), (1, .v (.slice (some ⟨b, o, none⟩) n c)), (4, .v (.int .i64 (n : Int)))]) ⟨e0, e1, e4, trivial⟩
  refine wp_seq ?_
  refine wp_region ?_
  refine new_ops (N := 107) (i := 0) (d := 58) (l := [1]) rfl rfl rfl (by decide) hA (op_mk (n := 32) (bt := 1) (cs := Array.replicate 32 (.int .u8 0)) rfl rfl rfl Tryd.underlying22 (by kernel_rfl) (by decide) (by decide)) (fun a1 h1 d1 => ?_)
  have F1 := F0.alloc (.cells (Array.replicate 32 (.int .u8 0)) 5)
  have hs1 : (⟨g, T, 16, stm (trR s n) m⟩ : Bl).In (W0.alloc (.cells (Array.replicate 32 (.int .u8 0)) 5)) := hs.on ((Fr.refl [] W0).alloc _) (by simp)
  have BT1 : Bts b o n x (W0.alloc (.cells (Array.replicate 32 (.int .u8 0)) 5)) := BT.on ((Fr.refl [] W0).alloc _) (by simp)
  have K1 : (⟨W0.heap.size, 5, 32, fun _ => .int .u8 0⟩ : Bl).In (W0.alloc (.cells (Array.replicate 32 (.int .u8 0)) 5)) := by
    refine ⟨_, (MapKept.heap_alloc W0 _).1, by simp, fun i hi => ?_⟩
    have hi' : i < 32 := hi
    simp [hi']
  have hsz := F0.size
  generalize hab : W0.heap.size = ab at h1 K1
  generalize W0.alloc (.cells (Array.replicate 32 (.int .u8 0)) 5) = W1 at F1 hs1 BT1 K1 ⊢
  refine given_ops (N := 107) (i := 1) (d := 6) (v := .slice (some ⟨ab, 0, none⟩) 32 32) (l := []) rfl rfl rfl (by decide) h1 (op_assign rfl (h1.2 58 _ rfl)) (fun a2 h2 d2 => ?_)
  show Code.wp _ _ _ _ _
  have M2 : Mw (bg [⟨g, T, 16, stm (trR s n) m⟩, ⟨ab, 5, 32, fun _ => .int .u8 0⟩]) [⟨g, T, 16, stm (trR s n) m⟩, ⟨ab, 5, 32, fun _ => .int .u8 0⟩] W1 := by
    refine ⟨rfl, hs1, ?_, K1, by simp, trivial⟩
    intro q hq
    simp only [List.mem_cons, List.not_mem_nil, or_false] at hq
    subst hq
    show ab ≠ g
    omega
  have g2 : Has 107 (bg [⟨g, T, 16, stm (trR s n) m⟩, ⟨ab, 5, 32, fun _ => .int .u8 0⟩]) [(0, .p 0 0), (1, .v (.slice (some ⟨b, o, none⟩) n c)), (4, .v (.int .i64 (n : Int))), (6, .s 1 0 32 32)] a2 := has_list h2.1 ⟨h2.2 0 _ rfl, h2.2 1 _ rfl, h2.2 4 _ rfl, h2.2 6 _ rfl, trivial⟩
  have e2 := d2.trans (d1.trans d0)
  clear hA h1 h2 d1 d2 d0 e0 e1 e4
  -- the rest of the text
  obtain ⟨A, hsl, hA⟩ := sl_from W1 b o n c (n / 4 * 4) (by omega) hc
  refine wp_seq ?_
  refine wp_region ?_
  refine ops_ (N := 107) (M := fun _ _ => none) (T := TT) (E' := [(60, .v (.int .i64 (n : Int))), (59, .v (.slice (some ⟨b, o, none⟩) n c)), (0, .p 0 0), (1, .v (.slice (some ⟨b, o, none⟩) n c)), (4, .v (.int .i64 (n : Int))), (6, .s 1 0 32 32)]) tabOk noMem [2, 3, 4] [0, 1] (by kernel_rfl) g2 (fun a3 h3 d3 => ?_)
  refine given_ops (N := 107) (i := 2) (d := 61) (v := .int .i64 ((n / 4 * 4 : Nat) : Int)) (l := [3, 4]) rfl rfl rfl (by decide) h3 (op_andNot rfl (h3.2 60 _ rfl) rfl hn) (fun a4 h4 d4 => ?_)
  refine given_ops (N := 107) (i := 3) (d := 62) (v := .slice A (n - n / 4 * 4) (c - n / 4 * 4)) (l := [4]) rfl rfl rfl (by decide) h4 (op_slice rfl (by
    show (Instr.sliceAt _ (a4.eval (.tmp 59)) (some (a4.eval (.tmp 61))) none none).run _ _ = _
    rw [h4.2 59 _ rfl, h4.2 61 _ rfl]
    exact hsl)) (fun a5 h5 d5 => ?_)
  refine given_ops (N := 107) (i := 4) (d := 7) (v := .slice A (n - n / 4 * 4) (c - n / 4 * 4)) (l := []) rfl rfl rfl (by decide) h5 (op_assign rfl (h5.2 62 _ rfl)) (fun a6 h6 d6 => ?_)
  show Code.wp _ _ _ _ _
  have e6 := d6.trans (d5.trans (d4.trans (d3.trans e2)))
  clear h3 h4 h5 d3 d4 d5 d6 e2 g2
  -- the whole fours
  have C := fun ty => copy_in (P := Tryd.prog) (W := W1) K1 0 32 32 b o (n / 4 * 4) c (n / 4 * 4) (fun j => .int .u8 (x j)) (Nat.min_eq_left (by omega)).symm (by show 0 + n / 4 * 4 ≤ 32; omega) (fun j hj => BT1 j (by omega)) (fun j hj => rfl) 22 22 ty 5 Tryd.underlying22 (by kernel_rfl)
  refine wp_seq ?_
  refine wp_region ?_
  have g6 := sub_ok (E := [(0, .p 0 0), (1, .v (.slice (some ⟨b, o, none⟩) n c)), (4, .v (.int .i64 (n : Int))), (6, .s 1 0 32 32), (7, .v (.slice A (n - n / 4 * 4) (c - n / 4 * 4)))]) h6 ⟨by kernel_rfl, by kernel_rfl, by kernel_rfl, by kernel_rfl, by kernel_rfl, trivial⟩
  refine ops_ (N := 107) (M := fun _ _ => none) (T := TT) (E' := [(65, .v (.int .i64 (n : Int))), (64, .v (.slice (some ⟨b, o, none⟩) n c)), (63, .s 1 0 32 32)] ++ [(0, .p 0 0), (1, .v (.slice (some ⟨b, o, none⟩) n c)), (4, .v (.int .i64 (n : Int))), (6, .s 1 0 32 32), (7, .v (.slice A (n - n / 4 * 4) (c - n / 4 * 4)))]) tabOk noMem [3, 4, 5] [0, 1, 2] (by kernel_rfl) g6 (fun a7 h7 d7 => ?_)
  refine given_ops (N := 107) (i := 3) (d := 66) (v := .int .i64 ((n / 4 * 4 : Nat) : Int)) (l := [4, 5]) rfl rfl rfl (by decide) h7 (op_andNot rfl (h7.2 65 _ rfl) rfl hn) (fun a8 h8 d8 => ?_)
  refine given_ops (N := 107) (i := 4) (d := 67) (v := .slice (some ⟨b, o, none⟩) (n / 4 * 4) c) (l := [5]) rfl rfl rfl (by decide) h8 (op_slice rfl (by
    show (Instr.sliceAt _ (a8.eval (.tmp 64)) none (some (a8.eval (.tmp 66))) none).run _ _ = _
    rw [h8.2 64 _ rfl, h8.2 66 _ rfl]
    exact sl_to W1 b o n c (n / 4 * 4) (by omega) (by omega))) (fun a9 h9 d9 => ?_)
  refine copy_ops (N := 107) (i := 5) (d := 68) (t1 := 22) (t2 := 22) (sx := .s 1 0 32 32) (sy := .v (.slice (some ⟨b, o, none⟩) (n / 4 * 4) c)) (v := goInt ((n / 4 * 4 : Nat) : Int)) (l := []) h9 (by kernel_rfl) (fun W' => Mw (bg [⟨g, T, 16, stm (trR s n) m⟩, ⟨ab, 5, 32, fun _ => .int .u8 0⟩]) [⟨g, T, 16, stm (trR s n) m⟩, ⟨ab, 5, 32, (cpB (fun _ => .int .u8 0) 0 (n / 4 * 4) (fun j => .int .u8 (x j)))⟩] W' ∧ Fr [ab] W1 W') (fun ty => by
    obtain ⟨W', h1, h2, h3⟩ := C ty
    exact ⟨W', h1, (M2.rep 1 rfl h3 h2 : Mw _ (bset _ 1 _) W'), h3⟩) (fun a10 W2 h10 d10 hR => ?_)
  obtain ⟨M3, G3⟩ := hR
  show Code.wp _ _ _ _ _
  have F3 := Fr.comp F1 G3 (fun x hx => Or.inr (by simp at hx; subst hx; omega))
  have hbab : b ≠ ab := by omega
  exact rem_sw g T ab b o n c A (trR s n) x m w W2 a10 hn hc hbab (by omega) (fun h => hA h) ho (BT1.on G3 (by simpa using hbab)) _ M3 F3 (sub_ok h10 ⟨by kernel_rfl, by kernel_rfl, by kernel_rfl, by kernel_rfl, by kernel_rfl, trivial⟩) (d10.trans (d9.trans (d8.trans (d7.trans e6))))
set_option maxHeartbeats 8000000 in
set_option maxRecDepth 100000 in
theorem remainder_walk (g T b o n c : Nat) (s x : Nat → Int) (m : Nat → Value) (w : World) (hs : (⟨g, T, 16, stm s m⟩ : Bl).In w) (hn : n < 32) (h0n : 0 < n) (hc : n ≤ c) (hbg : b ≠ g) (hx : Bts b o n x w) (ho : Oct n x) :
    Calls Tryd.prog 22 #[.pointer (some ⟨g, 0, none⟩), .slice (some ⟨b, o, none⟩) n c] w fun e w' => e = .returned (.tuple #[]) ∧ (⟨g, T, 16, stm (remS s n x) m⟩ : Bl).In w' ∧ Fr [g] w w' := by
  refine calls_of_wp Tryd.func22 rfl ?_
  have h0 := has_two (β := bg [⟨g, T, 16, stm s m⟩]) (.p 0 0) (.v (.slice (some ⟨b, o, none⟩) n c)) 105
  have hb : b < w.heap.size := World.block_lt_of_cell? w _ (hx 0 h0n)
  have M0 : Mw (bg [⟨g, T, 16, stm s m⟩]) [⟨g, T, 16, stm s m⟩] w := ⟨rfl, hs, by simp, trivial⟩
  refine wp_seq ?_
  refine regM_seq (N := 107) (T := TT) (n := 3) (E2 := [(0, .p 0 0), (1, .v (.slice (some ⟨b, o, none⟩) n c)), (4, .v (.int .i64 (n : Int)))]) tabOk h0 M0 rfl (by kernel_rfl) ⟨by kernel_rfl, by kernel_rfl, by kernel_rfl, trivial⟩ (fun a1 h1 d1 => ?_)
  show Code.wp _ _ _ _ _
  refine wp_seq ?_
  refine rem_loop g T b o n c s x m w w a1 hn _ (fun a W hW hF e0 e1 e4 hz hd => ?_) _ M0 (Fr.refl _ _) h1 d1
  exact rem_mid g T b o n c s x m w W a hn h0n hc hs.lt hb ho (hx.on hF (by simpa using hbg)) hW hF e0 e1 e4 hz hd
end Go.Proofs.YtnehminojlocoaaDoor.PAll
namespace Go.Proofs.YtnehminojlocoaaDoor.PAll
open Go.RowKit Go.Proofs.YtnehminojlocoaaDoorW.PrintWords Go.Proofs.YtnehminojlocoaaDoorW.PrintLast Go.Proofs.YtnehminojlocoaaDoorW.PrintMore
set_option linter.unusedVariables false
set_option linter.unusedSimpArgs false
section
variable {P : Program} {ops : Array Oper} {Q : Exit → Act → World → Prop} {S : World → Prop} {ds : List Nat} {N : Nat} {β : Nat → Nat} {T : TypeId → Option Ty}
/-- A call that keeps S, with what else it says. -/
theorem segR {j d f fuel : Nat} {args : List SV} {fn : Func} {L : Array Bool} {E : List (Nat × SV)} {a : Act} {w : World} (hA : Has N β E a)
    (hB : (readyB .any ops L (L.setIfInBounds j true) j && !(ds.contains j)) = true) (hcl : clV N ops j (some E) = some (f, d, args)) (hf : P.funcs[f]? = some fn) (hname : (fn.name == "runtime.NumGoroutine") = false) (hb : fn.body.isSome = true)
    (R : Value → World → Prop) (hC : Calls P f (args.map (SV.den β)).toArray w fun e W' => ∃ v, e = .returned v ∧ R v W' ∧ S W')
    (h : ∀ a' v W, Has N β ((d, .v v) :: E) a' → a'.defers = a.defers → R v W → S W → wpAnyLast P .any ops Q S ds fuel (L.setIfInBounds j true) a' W) : wpAnyLast P .any ops Q S ds (fuel + 1) L a w := by
  simp only [Bool.and_eq_true, Bool.not_eq_true', List.contains_eq_mem, decide_eq_false_iff_not] at hB
  obtain ⟨hB2, hB6⟩ := hB
  obtain ⟨E1, o1, he1, ho1, hg1, hd1, hN1, xs0, ts, hop1, hargs⟩ := clV_ok hcl
  obtain rfl := Option.some.inj he1
  refine one_ (i := j) (N := some d) _ ho1 hd1 hB2 hB6 (fun K hK => ?_)
  exact call_if hg1 hd1 hN1 hA hf hname hb hop1 hargs (fun v W' => R v W' ∧ S W') hC (fun v' W' a2 hR h3 h4 => hK.out _ _ hR.2 (fun _ => h a2 v' W' h3 h4 hR.1 hR.2))
/-- An operation that makes something new and keeps S. -/
theorem segN {i d fuel : Nat} {o : Oper} {v : Value} {L : Array Bool} {E : List (Nat × SV)} {a : Act} {w w1 : World} (hA : Has N β E a) (ho : ops[i]? = some o) (hg : o.guard = none) (hd : o.dst = some d) (hN : d < N)
    (hB : (readyB .any ops L (L.setIfInBounds i true) i && !(ds.contains i)) = true) (hrun : (execOp a.eval o).run P w = .ok (.value v) w1) (hS : S w1)
    (h : ∀ a', Has N β ((d, .v v) :: E) a' → a'.defers = a.defers → wpAnyLast P .any ops Q S ds fuel (L.setIfInBounds i true) a' w1) : wpAnyLast P .any ops Q S ds (fuel + 1) L a w := by
  simp only [Bool.and_eq_true, Bool.not_eq_true', List.contains_eq_mem, decide_eq_false_iff_not] at hB
  obtain ⟨hB2, hB6⟩ := hB
  refine one_ (i := i) (N := some d) _ ho hd hB2 hB6 (fun K hK => ?_)
  exact value_ (want_ hg) hd hrun (hK.out _ _ hS (fun _ => h _ (hA.put d hN (.v v)) (put_defs _ _ _)))
/-- A new slice of given parts. -/
theorem op_bs {o : Oper} {ρ : Operand → Value} {W : World} {t e len : Nat} {parts : Array (Nat × Operand)} {vals : List (Nat × Value)} {cs : Array Value} (ho : o.op = .buildSlice t len parts) (ht : P.underlying t = some (.slice e)) (hp : parts.toList.map (fun (i, x) => (i, ρ x)) = vals)
    (hm : ((P.info? e).bind fun ie => ie.zero.bind fun z => (Instr.fill (fun i => some (i * ie.size, ie.size)) ((Array.range (len * ie.size)).map (z.cells[· % z.cells.size]!)) vals).map fun cs => (cs, ie.size)) = some (cs, 1)) (h0 : 0 < len) (h1 : len ≤ 16777216) :
    (execOp ρ o).run P W = .ok (.value (.slice (some ⟨W.heap.size, 0, none⟩) len len)) (W.alloc (.cells cs e)) := by
  obtain ⟨ie, hie, h2⟩ := Option.bind_eq_some_iff.1 hm
  obtain ⟨z, hz, h3⟩ := Option.bind_eq_some_iff.1 h2
  obtain ⟨cs', hfl, h4⟩ := Option.map_eq_some_iff.1 h3
  simp only [Prod.mk.injEq] at h4
  obtain ⟨rfl, hsz⟩ := h4
  have hr := run_buildSlice (P := P) W t e len (parts.map fun (i, x) => (i, ρ x)) cs' ie z ht hie hz (by rw [hsz]; omega) (by rw [hsz]; omega) (by rw [Array.toList_map, hp]; exact hfl)
  unfold execOp
  simp only [ho, Sem.run_bind, hr, Result.andThen_ok]
  rfl
end
theorem cells_C {k : IntKind} {b o n : Nat} {x : Nat → Int} {W : World} (h : ∀ i, i < n → W.cell? ⟨b, o + i, none⟩ = some (.int k (x i))) (hn : n ≤ 9223372036854775807) : Kd.C (Kd.int k) W (some ⟨b, o, none⟩) n ((List.range n).map x) := by
  refine ⟨by simp, hn, fun _ => ⟨_, rfl, fun j p hp => ⟨[.int k p], rfl, rfl, fun i u hu => ?_⟩⟩⟩
  obtain ⟨hj, rfl⟩ := List.getElem?_eq_some_iff.1 hp
  have hj' : j < n := by simpa using hj
  cases i with
  | zero =>
    obtain rfl := Option.some.inj hu
    have := h j hj'
    show W.cell? (Addr.add ⟨b, o, none⟩ (j * 1 + 0)) = _
    have e : (Addr.add ⟨b, o, none⟩ (j * 1 + 0)) = ⟨b, o + j, none⟩ := by
      by_cases h0 : j = 0
      · simp [h0, Addr.add]
      · simp [h0, Addr.add]
    rw [e, this]
    simp
  | succ i => simp at hu
/-- A number's eight octets, the lowest first. -/
def hw8 (v : Int) : List Int := [v % 256, v / 256 % 256, v / 256 / 256 % 256, v / 256 / 256 / 256 % 256, v / 256 / 256 / 256 / 256 % 256, v / 256 / 256 / 256 / 256 / 256 % 256, v / 256 / 256 / 256 / 256 / 256 / 256 % 256, v / 256 / 256 / 256 / 256 / 256 / 256 / 256 % 256]
set_option maxRecDepth 100000 in
theorem hw_one (a : Int) : spec_HashWrite.f 11 [a] = some (hw8 a) := by kernel_rfl
set_option maxRecDepth 100000 in
theorem hw_two (a b : Int) : spec_HashWrite.f 21 [a, b] = some (hw8 a ++ hw8 b) := by kernel_rfl
set_option maxRecDepth 100000 in
theorem hw_four (a b c d : Int) : spec_HashWrite.f 41 [a, b, c, d] = some (hw8 a ++ hw8 b ++ hw8 c ++ hw8 d) := by kernel_rfl
/-- What writes a text of numbers says. -/
def Wrote (w : World) (r : List Int) (v : Value) (w' : World) : Prop := Kd.R (Kd.int .u8) 5 w' w.heap.size (fun _ => True) v r ∧ Below w.heap.size w w'
theorem hw_walk (k n b c : Nat) (x : Nat → Int) (r : List Int) (w : World) (h : ∀ i, i < n → w.cell? ⟨b, 0 + i, none⟩ = some (.int .u64 (x i))) (hn : n ≤ 9223372036854775807) (hc : n ≤ c) (hr : spec_HashWrite.f k ((List.range n).map x) = some r) :
    Calls Tryd.prog 24 #[.slice (some ⟨b, 0, none⟩) n c] w fun e w' => ∃ v, e = .returned v ∧ Wrote w r v w' := by
  have hC := cells_C h hn
  have key := spec_HashWrite.calls k (some ⟨b, 0, none⟩) c ((List.range n).map x) r w (by rw [List.length_map, List.length_range]; exact hC) (by simpa using hc) hr
  rw [List.length_map, List.length_range] at key
  exact key
/-- A state takes in its own numbers, k times. -/
def mxS : Nat → (Nat → Int) → (Nat → Int)
  | 0, s => s
  | k + 1, s => let t := mxS k s; US t (own4 t)
def rHi (a b c d : Int) : Int := ((spec_reduced.f a b c d).getD (0, 0)).1
def rLo (a b c d : Int) : Int := ((spec_reduced.f a b c d).getD (0, 0)).2
theorem rd_walk (a b c d : Int) (w : World) : Calls Tryd.prog 25 #[.int .u64 a, .int .u64 b, .int .u64 c, .int .u64 d] w fun e w' => e = .returned (.tuple #[.int .u64 (rHi a b c d), .int .u64 (rLo a b c d)]) ∧ Below w.heap.size w w' :=
  (spec_reduced.calls a b c d (rHi a b c d) (rLo a b c d) w rfl).mono fun e w' hh => ⟨hh.1, hh.2.below⟩
def pl (a b : Int) : Int := IntKind.u64.wrap (a + b)
def out8 (s : Nat → Int) : List Int := hw8 (pl (pl (pl (s 0) (s 4)) (s 8)) (s 12))
def out16 (s : Nat → Int) : List Int := hw8 (pl (pl (pl (s 0) (s 8)) (s 6)) (s 14)) ++ hw8 (pl (pl (pl (s 1) (s 9)) (s 7)) (s 15))
def rA3 (s : Nat → Int) (i : Nat) : Int := pl (s (4 + (i + 1))) (s (12 + (i + 1)))
def out32 (s : Nat → Int) : List Int :=
  hw8 (rLo (pl (s 5) (s 13)) (pl (s 4) (s 12)) (pl (s 1) (s 9)) (pl (s 0) (s 8))) ++ hw8 (rHi (pl (s 5) (s 13)) (pl (s 4) (s 12)) (pl (s 1) (s 9)) (pl (s 0) (s 8))) ++ hw8 (rLo (pl (s 7) (s 15)) (pl (s 6) (s 14)) (pl (s 3) (s 11)) (pl (s 2) (s 10))) ++ hw8 (rHi (pl (s 7) (s 15)) (pl (s 6) (s 14)) (pl (s 3) (s 11)) (pl (s 2) (s 10)))
/-- The numbers of a state, by the sum's size. -/
def outS (sz : Int) (s : Nat → Int) : List Int := if sz = 8 then out8 (mxS 4 s) else if sz = 16 then out16 (mxS 6 s) else out32 (mxS 10 s)
theorem Kd.R_base {α : Type} {d : Kd α} {e : Nat} {w : World} {base base' : Nat} {ok : Nat → Prop} {v : Value} {xs : List α} (h : d.R e w base ok v xs) (hb : base' ≤ base) : d.R e w base' ok v xs := Kd.R_lower h hb
noncomputable def hwyB : Code := match Tryd.f11.body with
  | some (.seq _ (.seq _ (.seq _ (.seq _ (.seq (.seq _ b) c))))) => b
  | _ => .skip
noncomputable def hwyC : Code := match Tryd.f11.body with
  | some (.seq _ (.seq _ (.seq _ (.seq _ (.seq (.seq _ b) c))))) => c
  | _ => .skip
set_option maxHeartbeats 8000000 in
set_option maxRecDepth 100000 in
theorem hw_fin8 (g : Nat) (s : Nat → Int) (w W0 : World) (a0 : Act) (hg : w.heap.size ≤ g) (M0 : Mw (bg [⟨g, 65, 16, stm s zz⟩]) [⟨g, 65, 16, stm s zz⟩] W0) (F0 : Fr [] w W0) (h0 : Has 234 (bg [⟨g, 65, 16, stm s zz⟩]) [(7, .p 0 0), (39, .v (.int .i64 8))] a0) (d0 : a0.defers = []) :
    Code.wp Tryd.prog hwyB (Exit.then (Code.wp Tryd.prog hwyC (bodyPost Tryd.prog Tryd.f11 fun e w' => ∃ v, e = .returned v ∧ Wrote w (outS 8 s) v w')) (bodyPost Tryd.prog Tryd.f11 fun e w' => ∃ v, e = .returned v ∧ Wrote w (outS 8 s) v w')) a0 W0 := by
  refine wp_block ?_
  refine wp_seq ?_
  refine regM_seq (N := 234) (T := TT) (n := 2) (E2 := [(7, .p 0 0), (39, .v (.int .i64 8)), (40, .v (.bool true))]) tabOk h0 M0 rfl (by kernel_rfl) ⟨by kernel_rfl, by kernel_rfl, by kernel_rfl, trivial⟩ (fun a1 h1 d1 => ?_)
  show Code.wp _ _ _ _ _
  replace d1 := d1.trans d0
  clear h0 d0
  refine wp_cond_true (h1.2 40 _ rfl) ?_
  replace h1 := sub_ok (E := [(7, .p 0 0)]) h1 ⟨by kernel_rfl, trivial⟩
  refine wp_seq ?_
  refine wp_seq ?_
  refine regM_seq (N := 234) (T := TT) (n := 1) (E2 := [(7, .p 0 0), (42, .v (.int .i64 0))]) tabOk h1 M0 rfl (by kernel_rfl) ⟨by kernel_rfl, by kernel_rfl, trivial⟩ (fun a2 h2 d2 => ?_)
  show Code.wp _ _ _ _ _
  replace d2 := d2.trans d1
  clear h1 d1
  refine wp_block ?_
  refine wp_loop_rounds 5 ?_
  rw [rounds_succ]
  refine wp_seq ?_
  refine regM_seq (N := 234) (T := TT) (n := 1) (E2 := [(7, .p 0 0), (42, .v (.int .i64 0)), (43, .v (.bool true))]) tabOk h2 M0 rfl (by kernel_rfl) ⟨by kernel_rfl, by kernel_rfl, by kernel_rfl, trivial⟩ (fun a3 h3 d3 => ?_)
  show Code.wp _ _ _ _ _
  replace d3 := d3.trans d2
  clear h2 d2
  refine wp_seq ?_
  refine wp_cond_true (h3.2 43 _ rfl) ?_
  refine wp_skip ?_
  show Code.wp _ _ _ _ _
  refine wp_seq ?_
  refine wp_block ?_
  refine wp_region ?_
  refine ops_ (N := 234) (M := fun _ _ => none) (T := TT) (E' := [(44, .p 0 0), (7, .p 0 0), (42, .v (.int .i64 0))]) tabOk noMem [1] [0] (by kernel_rfl) (sub_ok (E := [(7, .p 0 0), (42, .v (.int .i64 0))]) h3 ⟨by kernel_rfl, by kernel_rfl, trivial⟩) (fun b1 g1 e1 => ?_)
  refine call_ops (N := 234) (i := 1) (d := 45) (f := 23) (args := [.p 0 0]) (l := []) rfl rfl rfl (by decide) g1 Tryd.func23 rfl rfl rfl (by kernel_rfl) (fun v W' => (⟨g, 65, 16, stm (mxS 1 s) zz⟩ : Bl).In W' ∧ Fr [g] W0 W') ((mixed_walk g 65 s zz _ (M0.2.get (k := 0) rfl)).mono fun e W' hh => ⟨_, hh.1, hh.2⟩) (fun v W4 b2 hR g2 e2 => ?_)
  obtain ⟨I4, G4⟩ := hR
  have M4 : Mw (bg [⟨g, 65, 16, stm s zz⟩]) [⟨g, 65, 16, (stm (mxS 1 s) zz)⟩] W4 := ⟨bg_set [⟨g, 65, 16, stm s zz⟩] 0 (stm (mxS 1 s) zz), I4, by simp, trivial⟩
  have F4 := Fr.comp F0 G4 (fun x hx => Or.inr (by simp at hx; subst hx; exact hg))
  have h4 := sub_ok (E := [(7, .p 0 0), (42, .v (.int .i64 0))]) g2 ⟨by kernel_rfl, by kernel_rfl, trivial⟩
  have d4 := e2.trans (e1.trans d3)
  clear g1 g2 e1 e2 h3 d3 M0 F0 G4 I4
  show Code.wp _ _ _ _ _
  refine regM_seq (N := 234) (T := TT) (n := 2) (E2 := [(7, .p 0 0), (42, .v (.int .i64 1))]) tabOk h4 M4 rfl (by kernel_rfl) ⟨by kernel_rfl, by kernel_rfl, trivial⟩ (fun a5 h5 d5 => ?_)
  replace d5 := d5.trans d4
  clear h4 d4
  show Code.rounds _ _ _ _ _ _
  rw [rounds_succ]
  refine wp_seq ?_
  refine regM_seq (N := 234) (T := TT) (n := 1) (E2 := [(7, .p 0 0), (42, .v (.int .i64 1)), (43, .v (.bool true))]) tabOk h5 M4 rfl (by kernel_rfl) ⟨by kernel_rfl, by kernel_rfl, by kernel_rfl, trivial⟩ (fun a6 h6 d6 => ?_)
  show Code.wp _ _ _ _ _
  replace d6 := d6.trans d5
  clear h5 d5
  refine wp_seq ?_
  refine wp_cond_true (h6.2 43 _ rfl) ?_
  refine wp_skip ?_
  show Code.wp _ _ _ _ _
  refine wp_seq ?_
  refine wp_block ?_
  refine wp_region ?_
  refine ops_ (N := 234) (M := fun _ _ => none) (T := TT) (E' := [(44, .p 0 0), (7, .p 0 0), (42, .v (.int .i64 1))]) tabOk noMem [1] [0] (by kernel_rfl) (sub_ok (E := [(7, .p 0 0), (42, .v (.int .i64 1))]) h6 ⟨by kernel_rfl, by kernel_rfl, trivial⟩) (fun b1 g1 e1 => ?_)
  refine call_ops (N := 234) (i := 1) (d := 45) (f := 23) (args := [.p 0 0]) (l := []) rfl rfl rfl (by decide) g1 Tryd.func23 rfl rfl rfl (by kernel_rfl) (fun v W' => (⟨g, 65, 16, stm (mxS 2 s) zz⟩ : Bl).In W' ∧ Fr [g] W4 W') ((mixed_walk g 65 (mxS 1 s) zz _ (M4.2.get (k := 0) rfl)).mono fun e W' hh => ⟨_, hh.1, hh.2⟩) (fun v W7 b2 hR g2 e2 => ?_)
  obtain ⟨I7, G7⟩ := hR
  have M7 : Mw (bg [⟨g, 65, 16, stm s zz⟩]) [⟨g, 65, 16, (stm (mxS 2 s) zz)⟩] W7 := ⟨bg_set [⟨g, 65, 16, stm s zz⟩] 0 (stm (mxS 2 s) zz), I7, by simp, trivial⟩
  have F7 := Fr.comp F4 G7 (fun x hx => Or.inr (by simp at hx; subst hx; exact hg))
  have h7 := sub_ok (E := [(7, .p 0 0), (42, .v (.int .i64 1))]) g2 ⟨by kernel_rfl, by kernel_rfl, trivial⟩
  have d7 := e2.trans (e1.trans d6)
  clear g1 g2 e1 e2 h6 d6 M4 F4 G7 I7
  show Code.wp _ _ _ _ _
  refine regM_seq (N := 234) (T := TT) (n := 2) (E2 := [(7, .p 0 0), (42, .v (.int .i64 2))]) tabOk h7 M7 rfl (by kernel_rfl) ⟨by kernel_rfl, by kernel_rfl, trivial⟩ (fun a8 h8 d8 => ?_)
  replace d8 := d8.trans d7
  clear h7 d7
  show Code.rounds _ _ _ _ _ _
  rw [rounds_succ]
  refine wp_seq ?_
  refine regM_seq (N := 234) (T := TT) (n := 1) (E2 := [(7, .p 0 0), (42, .v (.int .i64 2)), (43, .v (.bool true))]) tabOk h8 M7 rfl (by kernel_rfl) ⟨by kernel_rfl, by kernel_rfl, by kernel_rfl, trivial⟩ (fun a9 h9 d9 => ?_)
  show Code.wp _ _ _ _ _
  replace d9 := d9.trans d8
  clear h8 d8
  refine wp_seq ?_
  refine wp_cond_true (h9.2 43 _ rfl) ?_
  refine wp_skip ?_
  show Code.wp _ _ _ _ _
  refine wp_seq ?_
  refine wp_block ?_
  refine wp_region ?_
  refine ops_ (N := 234) (M := fun _ _ => none) (T := TT) (E' := [(44, .p 0 0), (7, .p 0 0), (42, .v (.int .i64 2))]) tabOk noMem [1] [0] (by kernel_rfl) (sub_ok (E := [(7, .p 0 0), (42, .v (.int .i64 2))]) h9 ⟨by kernel_rfl, by kernel_rfl, trivial⟩) (fun b1 g1 e1 => ?_)
  refine call_ops (N := 234) (i := 1) (d := 45) (f := 23) (args := [.p 0 0]) (l := []) rfl rfl rfl (by decide) g1 Tryd.func23 rfl rfl rfl (by kernel_rfl) (fun v W' => (⟨g, 65, 16, stm (mxS 3 s) zz⟩ : Bl).In W' ∧ Fr [g] W7 W') ((mixed_walk g 65 (mxS 2 s) zz _ (M7.2.get (k := 0) rfl)).mono fun e W' hh => ⟨_, hh.1, hh.2⟩) (fun v W10 b2 hR g2 e2 => ?_)
  obtain ⟨I10, G10⟩ := hR
  have M10 : Mw (bg [⟨g, 65, 16, stm s zz⟩]) [⟨g, 65, 16, (stm (mxS 3 s) zz)⟩] W10 := ⟨bg_set [⟨g, 65, 16, stm s zz⟩] 0 (stm (mxS 3 s) zz), I10, by simp, trivial⟩
  have F10 := Fr.comp F7 G10 (fun x hx => Or.inr (by simp at hx; subst hx; exact hg))
  have h10 := sub_ok (E := [(7, .p 0 0), (42, .v (.int .i64 2))]) g2 ⟨by kernel_rfl, by kernel_rfl, trivial⟩
  have d10 := e2.trans (e1.trans d9)
  clear g1 g2 e1 e2 h9 d9 M7 F7 G10 I10
  show Code.wp _ _ _ _ _
  refine regM_seq (N := 234) (T := TT) (n := 2) (E2 := [(7, .p 0 0), (42, .v (.int .i64 3))]) tabOk h10 M10 rfl (by kernel_rfl) ⟨by kernel_rfl, by kernel_rfl, trivial⟩ (fun a11 h11 d11 => ?_)
  replace d11 := d11.trans d10
  clear h10 d10
  show Code.rounds _ _ _ _ _ _
  rw [rounds_succ]
  refine wp_seq ?_
  refine regM_seq (N := 234) (T := TT) (n := 1) (E2 := [(7, .p 0 0), (42, .v (.int .i64 3)), (43, .v (.bool true))]) tabOk h11 M10 rfl (by kernel_rfl) ⟨by kernel_rfl, by kernel_rfl, by kernel_rfl, trivial⟩ (fun a12 h12 d12 => ?_)
  show Code.wp _ _ _ _ _
  replace d12 := d12.trans d11
  clear h11 d11
  refine wp_seq ?_
  refine wp_cond_true (h12.2 43 _ rfl) ?_
  refine wp_skip ?_
  show Code.wp _ _ _ _ _
  refine wp_seq ?_
  refine wp_block ?_
  refine wp_region ?_
  refine ops_ (N := 234) (M := fun _ _ => none) (T := TT) (E' := [(44, .p 0 0), (7, .p 0 0), (42, .v (.int .i64 3))]) tabOk noMem [1] [0] (by kernel_rfl) (sub_ok (E := [(7, .p 0 0), (42, .v (.int .i64 3))]) h12 ⟨by kernel_rfl, by kernel_rfl, trivial⟩) (fun b1 g1 e1 => ?_)
  refine call_ops (N := 234) (i := 1) (d := 45) (f := 23) (args := [.p 0 0]) (l := []) rfl rfl rfl (by decide) g1 Tryd.func23 rfl rfl rfl (by kernel_rfl) (fun v W' => (⟨g, 65, 16, stm (mxS 4 s) zz⟩ : Bl).In W' ∧ Fr [g] W10 W') ((mixed_walk g 65 (mxS 3 s) zz _ (M10.2.get (k := 0) rfl)).mono fun e W' hh => ⟨_, hh.1, hh.2⟩) (fun v W13 b2 hR g2 e2 => ?_)
  obtain ⟨I13, G13⟩ := hR
  have M13 : Mw (bg [⟨g, 65, 16, stm s zz⟩]) [⟨g, 65, 16, (stm (mxS 4 s) zz)⟩] W13 := ⟨bg_set [⟨g, 65, 16, stm s zz⟩] 0 (stm (mxS 4 s) zz), I13, by simp, trivial⟩
  have F13 := Fr.comp F10 G13 (fun x hx => Or.inr (by simp at hx; subst hx; exact hg))
  have h13 := sub_ok (E := [(7, .p 0 0), (42, .v (.int .i64 3))]) g2 ⟨by kernel_rfl, by kernel_rfl, trivial⟩
  have d13 := e2.trans (e1.trans d12)
  clear g1 g2 e1 e2 h12 d12 M10 F10 G13 I13
  show Code.wp _ _ _ _ _
  refine regM_seq (N := 234) (T := TT) (n := 2) (E2 := [(7, .p 0 0), (42, .v (.int .i64 4))]) tabOk h13 M13 rfl (by kernel_rfl) ⟨by kernel_rfl, by kernel_rfl, trivial⟩ (fun a14 h14 d14 => ?_)
  replace d14 := d14.trans d13
  clear h13 d13
  show Code.rounds _ _ _ _ _ _
  rw [rounds_succ]
  refine wp_seq ?_
  refine regM_seq (N := 234) (T := TT) (n := 1) (E2 := [(7, .p 0 0), (42, .v (.int .i64 4)), (43, .v (.bool false))]) tabOk h14 M13 rfl (by kernel_rfl) ⟨by kernel_rfl, by kernel_rfl, by kernel_rfl, trivial⟩ (fun a15 h15 d15 => ?_)
  show Code.wp _ _ _ _ _
  replace d15 := d15.trans d14
  clear h14 d14
  refine wp_seq ?_
  refine wp_cond_false (h15.2 43 _ rfl) ?_
  refine wp_exit ?_
  refine then_exit (then_exit (exit_in ?_))
  show Code.wp _ _ _ _ _
  replace h15 := sub_ok (E := [(7, .p 0 0)]) h15 ⟨by kernel_rfl, trivial⟩
  refine wp_seq ?_
  generalize hS9 : mxS 4 s = S9 at M13
  refine start_ (S := fun V => Mw (bg [⟨g, 65, 16, stm s zz⟩]) [⟨g, 65, 16, (stm S9 zz)⟩] V ∧ Fr [] w V) (ds := []) (n := 26) _ (by kernel_rfl) rfl rfl ⟨M13.drew, F13.drew⟩ (fun hS0 => ?_)
  refine segP (S := fun V => Mw (bg [⟨g, 65, 16, stm s zz⟩]) [⟨g, 65, 16, (stm S9 zz)⟩] V ∧ Fr [] w V) (T := TT) (M := bm [⟨g, 65, 16, (stm S9 zz)⟩]) (N := 234) tabOk (fun V h => h.1.mem) (fun _ _ _ _ hd h => And.intro (hd.trans (And.left h)) (And.right h)) hS0 [0, 1, 2, 3, 4, 5, 6, 7, 8, 9, 10, 11, 12, 13, 14, 15, 16, 17, 18, 19, 20, 21, 22] 3 [(69, .v (.int .u64 (pl (pl (pl (S9 0) (S9 4)) (S9 8)) (S9 12))))] h15 (by kernel_rfl) (by kernel_rfl) ⟨by kernel_rfl, trivial⟩ (fun a16 h16 d16 => ?_)
  have B0 : Below W13.drew.heap.size W13.drew (W13.drew.alloc (.cells #[.int .u64 (pl (pl (pl (S9 0) (S9 4)) (S9 8)) (S9 12))] 31)) := (Below.refl _ _).alloc (Nat.le_refl _) _
  have hS1 : Mw (bg [⟨g, 65, 16, stm s zz⟩]) [⟨g, 65, 16, (stm S9 zz)⟩] (W13.drew.alloc (.cells #[.int .u64 (pl (pl (pl (S9 0) (S9 4)) (S9 8)) (S9 12))] 31)) ∧ Fr [] w (W13.drew.alloc (.cells #[.int .u64 (pl (pl (pl (S9 0) (S9 4)) (S9 8)) (S9 12))] 31)) := ⟨hS0.1.onB B0, hS0.2.trans (Fr.ofBelow _ B0)⟩
  have hcell : ∀ i, i < 1 → (W13.drew.alloc (.cells #[.int .u64 (pl (pl (pl (S9 0) (S9 4)) (S9 8)) (S9 12))] 31)).cell? ⟨W13.drew.heap.size, 0 + i, none⟩ = some (.int .u64 ((#[(pl (pl (pl (S9 0) (S9 4)) (S9 8)) (S9 12))].getD i 0 : Int))) := by
    intro i hi
    have hb := (MapKept.heap_alloc W13.drew (.cells #[.int .u64 (pl (pl (pl (S9 0) (S9 4)) (S9 8)) (S9 12))] 31)).1
    rw [blk_cell hb]
    rcases (by omega : i = 0) with rfl
    all_goals rfl
  refine segN (S := fun V => Mw (bg [⟨g, 65, 16, stm s zz⟩]) [⟨g, 65, 16, (stm S9 zz)⟩] V ∧ Fr [] w V) (N := 234) (i := 23) (d := 70) (v := .slice (some ⟨W13.drew.heap.size, 0, none⟩) 1 1) h16 rfl rfl rfl (by decide) (by kernel_rfl) (op_bs (cs := #[.int .u64 (pl (pl (pl (S9 0) (S9 4)) (S9 8)) (S9 12))]) (vals := [(0, .int .u64 (pl (pl (pl (S9 0) (S9 4)) (S9 8)) (S9 12)))]) rfl Tryd.underlying91 (by
    show [(0, a16.eval (.tmp 69))] = _
    rw [h16.2 69 _ rfl]
    rfl) (by kernel_rfl) (by decide) (by decide)) hS1 (fun a17 h17 d17 => ?_)
  have lY := hS0.2.size
  refine segR (S := fun V => Mw (bg [⟨g, 65, 16, stm s zz⟩]) [⟨g, 65, 16, (stm S9 zz)⟩] V ∧ Fr [] w V) (N := 234) (j := 24) (d := 71) (f := 24) (args := [.v (.slice (some ⟨W13.drew.heap.size, 0, none⟩) 1 1)]) h17 (by kernel_rfl) (by kernel_rfl) Tryd.func24 rfl rfl (fun v W' => Wrote w (outS 8 s) v W') ((hw_walk 11 1 _ 1 (fun i => (#[(pl (pl (pl (S9 0) (S9 4)) (S9 8)) (S9 12))].getD i 0 : Int)) _ _ hcell (by decide) (by decide) (hw_one _)).mono fun e W' hh => ?_) (fun a18 v W18 h18 d18 hR hS2 => ?_)
  · obtain ⟨v, rfl, hW⟩ := hh
    subst hS9
    refine ⟨v, rfl, ⟨Kd.R_base hW.1 (Nat.le_trans lY B0.size), ?_⟩, hS1.1.onB hW.2, hS1.2.trans (Fr.ofBelow _ hW.2)⟩
    exact (hS1.2.trans (Fr.ofBelow [] hW.2)).below _ (Nat.le_refl _) (by simp)
  refine segP (S := fun V => Mw (bg [⟨g, 65, 16, stm s zz⟩]) [⟨g, 65, 16, (stm S9 zz)⟩] V ∧ Fr [] w V) (T := TT) (M := bm [⟨g, 65, 16, (stm S9 zz)⟩]) (N := 234) tabOk (fun V h => h.1.mem) (fun _ _ _ _ hd h => And.intro (hd.trans (And.left h)) (And.right h)) hS2 [25] 0 [(6, .v v)] h18 (by kernel_rfl) (by kernel_rfl) ⟨by kernel_rfl, trivial⟩ (fun a19 h19 d19 => ?_)
  refine segE (by kernel_rfl) ?_
  show Code.wp _ _ _ _ _
  refine wp_ret ?_
  exact ⟨d19.trans (d18.trans (d17.trans (d16.trans d15))), _, results_tmp rfl _ _ _, v, congrArg Ending.returned (h19.2 6 _ rfl), hR⟩
set_option maxHeartbeats 8000000 in
set_option maxRecDepth 100000 in
theorem hw_fin16 (g : Nat) (s : Nat → Int) (w W0 : World) (a0 : Act) (hg : w.heap.size ≤ g) (M0 : Mw (bg [⟨g, 65, 16, stm s zz⟩]) [⟨g, 65, 16, stm s zz⟩] W0) (F0 : Fr [] w W0) (h0 : Has 234 (bg [⟨g, 65, 16, stm s zz⟩]) [(7, .p 0 0), (39, .v (.int .i64 16))] a0) (d0 : a0.defers = []) :
    Code.wp Tryd.prog hwyB (Exit.then (Code.wp Tryd.prog hwyC (bodyPost Tryd.prog Tryd.f11 fun e w' => ∃ v, e = .returned v ∧ Wrote w (outS 16 s) v w')) (bodyPost Tryd.prog Tryd.f11 fun e w' => ∃ v, e = .returned v ∧ Wrote w (outS 16 s) v w')) a0 W0 := by
  refine wp_block ?_
  refine wp_seq ?_
  refine regM_seq (N := 234) (T := TT) (n := 2) (E2 := [(7, .p 0 0), (39, .v (.int .i64 16)), (40, .v (.bool false))]) tabOk h0 M0 rfl (by kernel_rfl) ⟨by kernel_rfl, by kernel_rfl, by kernel_rfl, trivial⟩ (fun a1 h1 d1 => ?_)
  show Code.wp _ _ _ _ _
  replace d1 := d1.trans d0
  clear h0 d0
  refine wp_cond_false (h1.2 40 _ rfl) ?_
  refine wp_seq ?_
  refine regM_seq (N := 234) (T := TT) (n := 2) (E2 := [(7, .p 0 0), (39, .v (.int .i64 16)), (72, .v (.bool true))]) tabOk h1 M0 rfl (by kernel_rfl) ⟨by kernel_rfl, by kernel_rfl, by kernel_rfl, trivial⟩ (fun a2 h2 d2 => ?_)
  show Code.wp _ _ _ _ _
  replace d2 := d2.trans d1
  clear h1 d1
  refine wp_cond_true (h2.2 72 _ rfl) ?_
  replace h2 := sub_ok (E := [(7, .p 0 0)]) h2 ⟨by kernel_rfl, trivial⟩
  refine wp_seq ?_
  refine wp_seq ?_
  refine regM_seq (N := 234) (T := TT) (n := 1) (E2 := [(7, .p 0 0), (74, .v (.int .i64 0))]) tabOk h2 M0 rfl (by kernel_rfl) ⟨by kernel_rfl, by kernel_rfl, trivial⟩ (fun a3 h3 d3 => ?_)
  show Code.wp _ _ _ _ _
  replace d3 := d3.trans d2
  clear h2 d2
  refine wp_block ?_
  refine wp_loop_rounds 7 ?_
  rw [rounds_succ]
  refine wp_seq ?_
  refine regM_seq (N := 234) (T := TT) (n := 1) (E2 := [(7, .p 0 0), (74, .v (.int .i64 0)), (75, .v (.bool true))]) tabOk h3 M0 rfl (by kernel_rfl) ⟨by kernel_rfl, by kernel_rfl, by kernel_rfl, trivial⟩ (fun a4 h4 d4 => ?_)
  show Code.wp _ _ _ _ _
  replace d4 := d4.trans d3
  clear h3 d3
  refine wp_seq ?_
  refine wp_cond_true (h4.2 75 _ rfl) ?_
  refine wp_skip ?_
  show Code.wp _ _ _ _ _
  refine wp_seq ?_
  refine wp_block ?_
  refine wp_region ?_
  refine ops_ (N := 234) (M := fun _ _ => none) (T := TT) (E' := [(76, .p 0 0), (7, .p 0 0), (74, .v (.int .i64 0))]) tabOk noMem [1] [0] (by kernel_rfl) (sub_ok (E := [(7, .p 0 0), (74, .v (.int .i64 0))]) h4 ⟨by kernel_rfl, by kernel_rfl, trivial⟩) (fun b1 g1 e1 => ?_)
  refine call_ops (N := 234) (i := 1) (d := 77) (f := 23) (args := [.p 0 0]) (l := []) rfl rfl rfl (by decide) g1 Tryd.func23 rfl rfl rfl (by kernel_rfl) (fun v W' => (⟨g, 65, 16, stm (mxS 1 s) zz⟩ : Bl).In W' ∧ Fr [g] W0 W') ((mixed_walk g 65 s zz _ (M0.2.get (k := 0) rfl)).mono fun e W' hh => ⟨_, hh.1, hh.2⟩) (fun v W5 b2 hR g2 e2 => ?_)
  obtain ⟨I5, G5⟩ := hR
  have M5 : Mw (bg [⟨g, 65, 16, stm s zz⟩]) [⟨g, 65, 16, (stm (mxS 1 s) zz)⟩] W5 := ⟨bg_set [⟨g, 65, 16, stm s zz⟩] 0 (stm (mxS 1 s) zz), I5, by simp, trivial⟩
  have F5 := Fr.comp F0 G5 (fun x hx => Or.inr (by simp at hx; subst hx; exact hg))
  have h5 := sub_ok (E := [(7, .p 0 0), (74, .v (.int .i64 0))]) g2 ⟨by kernel_rfl, by kernel_rfl, trivial⟩
  have d5 := e2.trans (e1.trans d4)
  clear g1 g2 e1 e2 h4 d4 M0 F0 G5 I5
  show Code.wp _ _ _ _ _
  refine regM_seq (N := 234) (T := TT) (n := 2) (E2 := [(7, .p 0 0), (74, .v (.int .i64 1))]) tabOk h5 M5 rfl (by kernel_rfl) ⟨by kernel_rfl, by kernel_rfl, trivial⟩ (fun a6 h6 d6 => ?_)
  replace d6 := d6.trans d5
  clear h5 d5
  show Code.rounds _ _ _ _ _ _
  rw [rounds_succ]
  refine wp_seq ?_
  refine regM_seq (N := 234) (T := TT) (n := 1) (E2 := [(7, .p 0 0), (74, .v (.int .i64 1)), (75, .v (.bool true))]) tabOk h6 M5 rfl (by kernel_rfl) ⟨by kernel_rfl, by kernel_rfl, by kernel_rfl, trivial⟩ (fun a7 h7 d7 => ?_)
  show Code.wp _ _ _ _ _
  replace d7 := d7.trans d6
  clear h6 d6
  refine wp_seq ?_
  refine wp_cond_true (h7.2 75 _ rfl) ?_
  refine wp_skip ?_
  show Code.wp _ _ _ _ _
  refine wp_seq ?_
  refine wp_block ?_
  refine wp_region ?_
  refine ops_ (N := 234) (M := fun _ _ => none) (T := TT) (E' := [(76, .p 0 0), (7, .p 0 0), (74, .v (.int .i64 1))]) tabOk noMem [1] [0] (by kernel_rfl) (sub_ok (E := [(7, .p 0 0), (74, .v (.int .i64 1))]) h7 ⟨by kernel_rfl, by kernel_rfl, trivial⟩) (fun b1 g1 e1 => ?_)
  refine call_ops (N := 234) (i := 1) (d := 77) (f := 23) (args := [.p 0 0]) (l := []) rfl rfl rfl (by decide) g1 Tryd.func23 rfl rfl rfl (by kernel_rfl) (fun v W' => (⟨g, 65, 16, stm (mxS 2 s) zz⟩ : Bl).In W' ∧ Fr [g] W5 W') ((mixed_walk g 65 (mxS 1 s) zz _ (M5.2.get (k := 0) rfl)).mono fun e W' hh => ⟨_, hh.1, hh.2⟩) (fun v W8 b2 hR g2 e2 => ?_)
  obtain ⟨I8, G8⟩ := hR
  have M8 : Mw (bg [⟨g, 65, 16, stm s zz⟩]) [⟨g, 65, 16, (stm (mxS 2 s) zz)⟩] W8 := ⟨bg_set [⟨g, 65, 16, stm s zz⟩] 0 (stm (mxS 2 s) zz), I8, by simp, trivial⟩
  have F8 := Fr.comp F5 G8 (fun x hx => Or.inr (by simp at hx; subst hx; exact hg))
  have h8 := sub_ok (E := [(7, .p 0 0), (74, .v (.int .i64 1))]) g2 ⟨by kernel_rfl, by kernel_rfl, trivial⟩
  have d8 := e2.trans (e1.trans d7)
  clear g1 g2 e1 e2 h7 d7 M5 F5 G8 I8
  show Code.wp _ _ _ _ _
  refine regM_seq (N := 234) (T := TT) (n := 2) (E2 := [(7, .p 0 0), (74, .v (.int .i64 2))]) tabOk h8 M8 rfl (by kernel_rfl) ⟨by kernel_rfl, by kernel_rfl, trivial⟩ (fun a9 h9 d9 => ?_)
  replace d9 := d9.trans d8
  clear h8 d8
  show Code.rounds _ _ _ _ _ _
  rw [rounds_succ]
  refine wp_seq ?_
  refine regM_seq (N := 234) (T := TT) (n := 1) (E2 := [(7, .p 0 0), (74, .v (.int .i64 2)), (75, .v (.bool true))]) tabOk h9 M8 rfl (by kernel_rfl) ⟨by kernel_rfl, by kernel_rfl, by kernel_rfl, trivial⟩ (fun a10 h10 d10 => ?_)
  show Code.wp _ _ _ _ _
  replace d10 := d10.trans d9
  clear h9 d9
  refine wp_seq ?_
  refine wp_cond_true (h10.2 75 _ rfl) ?_
  refine wp_skip ?_
  show Code.wp _ _ _ _ _
  refine wp_seq ?_
  refine wp_block ?_
  refine wp_region ?_
  refine ops_ (N := 234) (M := fun _ _ => none) (T := TT) (E' := [(76, .p 0 0), (7, .p 0 0), (74, .v (.int .i64 2))]) tabOk noMem [1] [0] (by kernel_rfl) (sub_ok (E := [(7, .p 0 0), (74, .v (.int .i64 2))]) h10 ⟨by kernel_rfl, by kernel_rfl, trivial⟩) (fun b1 g1 e1 => ?_)
  refine call_ops (N := 234) (i := 1) (d := 77) (f := 23) (args := [.p 0 0]) (l := []) rfl rfl rfl (by decide) g1 Tryd.func23 rfl rfl rfl (by kernel_rfl) (fun v W' => (⟨g, 65, 16, stm (mxS 3 s) zz⟩ : Bl).In W' ∧ Fr [g] W8 W') ((mixed_walk g 65 (mxS 2 s) zz _ (M8.2.get (k := 0) rfl)).mono fun e W' hh => ⟨_, hh.1, hh.2⟩) (fun v W11 b2 hR g2 e2 => ?_)
  obtain ⟨I11, G11⟩ := hR
  have M11 : Mw (bg [⟨g, 65, 16, stm s zz⟩]) [⟨g, 65, 16, (stm (mxS 3 s) zz)⟩] W11 := ⟨bg_set [⟨g, 65, 16, stm s zz⟩] 0 (stm (mxS 3 s) zz), I11, by simp, trivial⟩
  have F11 := Fr.comp F8 G11 (fun x hx => Or.inr (by simp at hx; subst hx; exact hg))
  have h11 := sub_ok (E := [(7, .p 0 0), (74, .v (.int .i64 2))]) g2 ⟨by kernel_rfl, by kernel_rfl, trivial⟩
  have d11 := e2.trans (e1.trans d10)
  clear g1 g2 e1 e2 h10 d10 M8 F8 G11 I11
  show Code.wp _ _ _ _ _
  refine regM_seq (N := 234) (T := TT) (n := 2) (E2 := [(7, .p 0 0), (74, .v (.int .i64 3))]) tabOk h11 M11 rfl (by kernel_rfl) ⟨by kernel_rfl, by kernel_rfl, trivial⟩ (fun a12 h12 d12 => ?_)
  replace d12 := d12.trans d11
  clear h11 d11
  show Code.rounds _ _ _ _ _ _
  rw [rounds_succ]
  refine wp_seq ?_
  refine regM_seq (N := 234) (T := TT) (n := 1) (E2 := [(7, .p 0 0), (74, .v (.int .i64 3)), (75, .v (.bool true))]) tabOk h12 M11 rfl (by kernel_rfl) ⟨by kernel_rfl, by kernel_rfl, by kernel_rfl, trivial⟩ (fun a13 h13 d13 => ?_)
  show Code.wp _ _ _ _ _
  replace d13 := d13.trans d12
  clear h12 d12
  refine wp_seq ?_
  refine wp_cond_true (h13.2 75 _ rfl) ?_
  refine wp_skip ?_
  show Code.wp _ _ _ _ _
  refine wp_seq ?_
  refine wp_block ?_
  refine wp_region ?_
  refine ops_ (N := 234) (M := fun _ _ => none) (T := TT) (E' := [(76, .p 0 0), (7, .p 0 0), (74, .v (.int .i64 3))]) tabOk noMem [1] [0] (by kernel_rfl) (sub_ok (E := [(7, .p 0 0), (74, .v (.int .i64 3))]) h13 ⟨by kernel_rfl, by kernel_rfl, trivial⟩) (fun b1 g1 e1 => ?_)
  refine call_ops (N := 234) (i := 1) (d := 77) (f := 23) (args := [.p 0 0]) (l := []) rfl rfl rfl (by decide) g1 Tryd.func23 rfl rfl rfl (by kernel_rfl) (fun v W' => (⟨g, 65, 16, stm (mxS 4 s) zz⟩ : Bl).In W' ∧ Fr [g] W11 W') ((mixed_walk g 65 (mxS 3 s) zz _ (M11.2.get (k := 0) rfl)).mono fun e W' hh => ⟨_, hh.1, hh.2⟩) (fun v W14 b2 hR g2 e2 => ?_)
  obtain ⟨I14, G14⟩ := hR
  have M14 : Mw (bg [⟨g, 65, 16, stm s zz⟩]) [⟨g, 65, 16, (stm (mxS 4 s) zz)⟩] W14 := ⟨bg_set [⟨g, 65, 16, stm s zz⟩] 0 (stm (mxS 4 s) zz), I14, by simp, trivial⟩
  have F14 := Fr.comp F11 G14 (fun x hx => Or.inr (by simp at hx; subst hx; exact hg))
  have h14 := sub_ok (E := [(7, .p 0 0), (74, .v (.int .i64 3))]) g2 ⟨by kernel_rfl, by kernel_rfl, trivial⟩
  have d14 := e2.trans (e1.trans d13)
  clear g1 g2 e1 e2 h13 d13 M11 F11 G14 I14
  show Code.wp _ _ _ _ _
  refine regM_seq (N := 234) (T := TT) (n := 2) (E2 := [(7, .p 0 0), (74, .v (.int .i64 4))]) tabOk h14 M14 rfl (by kernel_rfl) ⟨by kernel_rfl, by kernel_rfl, trivial⟩ (fun a15 h15 d15 => ?_)
  replace d15 := d15.trans d14
  clear h14 d14
  show Code.rounds _ _ _ _ _ _
  rw [rounds_succ]
  refine wp_seq ?_
  refine regM_seq (N := 234) (T := TT) (n := 1) (E2 := [(7, .p 0 0), (74, .v (.int .i64 4)), (75, .v (.bool true))]) tabOk h15 M14 rfl (by kernel_rfl) ⟨by kernel_rfl, by kernel_rfl, by kernel_rfl, trivial⟩ (fun a16 h16 d16 => ?_)
  show Code.wp _ _ _ _ _
  replace d16 := d16.trans d15
  clear h15 d15
  refine wp_seq ?_
  refine wp_cond_true (h16.2 75 _ rfl) ?_
  refine wp_skip ?_
  show Code.wp _ _ _ _ _
  refine wp_seq ?_
  refine wp_block ?_
  refine wp_region ?_
  refine ops_ (N := 234) (M := fun _ _ => none) (T := TT) (E' := [(76, .p 0 0), (7, .p 0 0), (74, .v (.int .i64 4))]) tabOk noMem [1] [0] (by kernel_rfl) (sub_ok (E := [(7, .p 0 0), (74, .v (.int .i64 4))]) h16 ⟨by kernel_rfl, by kernel_rfl, trivial⟩) (fun b1 g1 e1 => ?_)
  refine call_ops (N := 234) (i := 1) (d := 77) (f := 23) (args := [.p 0 0]) (l := []) rfl rfl rfl (by decide) g1 Tryd.func23 rfl rfl rfl (by kernel_rfl) (fun v W' => (⟨g, 65, 16, stm (mxS 5 s) zz⟩ : Bl).In W' ∧ Fr [g] W14 W') ((mixed_walk g 65 (mxS 4 s) zz _ (M14.2.get (k := 0) rfl)).mono fun e W' hh => ⟨_, hh.1, hh.2⟩) (fun v W17 b2 hR g2 e2 => ?_)
  obtain ⟨I17, G17⟩ := hR
  have M17 : Mw (bg [⟨g, 65, 16, stm s zz⟩]) [⟨g, 65, 16, (stm (mxS 5 s) zz)⟩] W17 := ⟨bg_set [⟨g, 65, 16, stm s zz⟩] 0 (stm (mxS 5 s) zz), I17, by simp, trivial⟩
  have F17 := Fr.comp F14 G17 (fun x hx => Or.inr (by simp at hx; subst hx; exact hg))
  have h17 := sub_ok (E := [(7, .p 0 0), (74, .v (.int .i64 4))]) g2 ⟨by kernel_rfl, by kernel_rfl, trivial⟩
  have d17 := e2.trans (e1.trans d16)
  clear g1 g2 e1 e2 h16 d16 M14 F14 G17 I17
  show Code.wp _ _ _ _ _
  refine regM_seq (N := 234) (T := TT) (n := 2) (E2 := [(7, .p 0 0), (74, .v (.int .i64 5))]) tabOk h17 M17 rfl (by kernel_rfl) ⟨by kernel_rfl, by kernel_rfl, trivial⟩ (fun a18 h18 d18 => ?_)
  replace d18 := d18.trans d17
  clear h17 d17
  show Code.rounds _ _ _ _ _ _
  rw [rounds_succ]
  refine wp_seq ?_
  refine regM_seq (N := 234) (T := TT) (n := 1) (E2 := [(7, .p 0 0), (74, .v (.int .i64 5)), (75, .v (.bool true))]) tabOk h18 M17 rfl (by kernel_rfl) ⟨by kernel_rfl, by kernel_rfl, by kernel_rfl, trivial⟩ (fun a19 h19 d19 => ?_)
  show Code.wp _ _ _ _ _
  replace d19 := d19.trans d18
  clear h18 d18
  refine wp_seq ?_
  refine wp_cond_true (h19.2 75 _ rfl) ?_
  refine wp_skip ?_
  show Code.wp _ _ _ _ _
  refine wp_seq ?_
  refine wp_block ?_
  refine wp_region ?_
  refine ops_ (N := 234) (M := fun _ _ => none) (T := TT) (E' := [(76, .p 0 0), (7, .p 0 0), (74, .v (.int .i64 5))]) tabOk noMem [1] [0] (by kernel_rfl) (sub_ok (E := [(7, .p 0 0), (74, .v (.int .i64 5))]) h19 ⟨by kernel_rfl, by kernel_rfl, trivial⟩) (fun b1 g1 e1 => ?_)
  refine call_ops (N := 234) (i := 1) (d := 77) (f := 23) (args := [.p 0 0]) (l := []) rfl rfl rfl (by decide) g1 Tryd.func23 rfl rfl rfl (by kernel_rfl) (fun v W' => (⟨g, 65, 16, stm (mxS 6 s) zz⟩ : Bl).In W' ∧ Fr [g] W17 W') ((mixed_walk g 65 (mxS 5 s) zz _ (M17.2.get (k := 0) rfl)).mono fun e W' hh => ⟨_, hh.1, hh.2⟩) (fun v W20 b2 hR g2 e2 => ?_)
  obtain ⟨I20, G20⟩ := hR
  have M20 : Mw (bg [⟨g, 65, 16, stm s zz⟩]) [⟨g, 65, 16, (stm (mxS 6 s) zz)⟩] W20 := ⟨bg_set [⟨g, 65, 16, stm s zz⟩] 0 (stm (mxS 6 s) zz), I20, by simp, trivial⟩
  have F20 := Fr.comp F17 G20 (fun x hx => Or.inr (by simp at hx; subst hx; exact hg))
  have h20 := sub_ok (E := [(7, .p 0 0), (74, .v (.int .i64 5))]) g2 ⟨by kernel_rfl, by kernel_rfl, trivial⟩
  have d20 := e2.trans (e1.trans d19)
  clear g1 g2 e1 e2 h19 d19 M17 F17 G20 I20
  show Code.wp _ _ _ _ _
  refine regM_seq (N := 234) (T := TT) (n := 2) (E2 := [(7, .p 0 0), (74, .v (.int .i64 6))]) tabOk h20 M20 rfl (by kernel_rfl) ⟨by kernel_rfl, by kernel_rfl, trivial⟩ (fun a21 h21 d21 => ?_)
  replace d21 := d21.trans d20
  clear h20 d20
  show Code.rounds _ _ _ _ _ _
  rw [rounds_succ]
  refine wp_seq ?_
  refine regM_seq (N := 234) (T := TT) (n := 1) (E2 := [(7, .p 0 0), (74, .v (.int .i64 6)), (75, .v (.bool false))]) tabOk h21 M20 rfl (by kernel_rfl) ⟨by kernel_rfl, by kernel_rfl, by kernel_rfl, trivial⟩ (fun a22 h22 d22 => ?_)
  show Code.wp _ _ _ _ _
  replace d22 := d22.trans d21
  clear h21 d21
  refine wp_seq ?_
  refine wp_cond_false (h22.2 75 _ rfl) ?_
  refine wp_exit ?_
  refine then_exit (then_exit (exit_in ?_))
  show Code.wp _ _ _ _ _
  replace h22 := sub_ok (E := [(7, .p 0 0)]) h22 ⟨by kernel_rfl, trivial⟩
  refine wp_seq ?_
  generalize hS9 : mxS 6 s = S9 at M20
  refine start_ (S := fun V => Mw (bg [⟨g, 65, 16, stm s zz⟩]) [⟨g, 65, 16, (stm S9 zz)⟩] V ∧ Fr [] w V) (ds := []) (n := 49) _ (by kernel_rfl) rfl rfl ⟨M20.drew, F20.drew⟩ (fun hS0 => ?_)
  refine segP (S := fun V => Mw (bg [⟨g, 65, 16, stm s zz⟩]) [⟨g, 65, 16, (stm S9 zz)⟩] V ∧ Fr [] w V) (T := TT) (M := bm [⟨g, 65, 16, (stm S9 zz)⟩]) (N := 234) tabOk (fun V h => h.1.mem) (fun _ _ _ _ hd h => And.intro (hd.trans (And.left h)) (And.right h)) hS0 [0, 1, 2, 3, 4, 5, 6, 7, 8, 9, 10, 11, 12, 13, 14, 15, 16, 17, 18, 19, 20, 21, 22, 23, 24, 25, 26, 27, 28, 29, 30, 31, 32, 33, 34, 35, 36, 37, 38, 39, 40, 41, 42, 43, 44, 45] 3 [(101, .v (.int .u64 (pl (pl (pl (S9 0) (S9 8)) (S9 6)) (S9 14)))), (124, .v (.int .u64 (pl (pl (pl (S9 1) (S9 9)) (S9 7)) (S9 15))))] h22 (by kernel_rfl) (by kernel_rfl) ⟨by kernel_rfl, by kernel_rfl, trivial⟩ (fun a23 h23 d23 => ?_)
  have B0 : Below W20.drew.heap.size W20.drew (W20.drew.alloc (.cells #[.int .u64 (pl (pl (pl (S9 0) (S9 8)) (S9 6)) (S9 14)), .int .u64 (pl (pl (pl (S9 1) (S9 9)) (S9 7)) (S9 15))] 31)) := (Below.refl _ _).alloc (Nat.le_refl _) _
  have hS1 : Mw (bg [⟨g, 65, 16, stm s zz⟩]) [⟨g, 65, 16, (stm S9 zz)⟩] (W20.drew.alloc (.cells #[.int .u64 (pl (pl (pl (S9 0) (S9 8)) (S9 6)) (S9 14)), .int .u64 (pl (pl (pl (S9 1) (S9 9)) (S9 7)) (S9 15))] 31)) ∧ Fr [] w (W20.drew.alloc (.cells #[.int .u64 (pl (pl (pl (S9 0) (S9 8)) (S9 6)) (S9 14)), .int .u64 (pl (pl (pl (S9 1) (S9 9)) (S9 7)) (S9 15))] 31)) := ⟨hS0.1.onB B0, hS0.2.trans (Fr.ofBelow _ B0)⟩
  have hcell : ∀ i, i < 2 → (W20.drew.alloc (.cells #[.int .u64 (pl (pl (pl (S9 0) (S9 8)) (S9 6)) (S9 14)), .int .u64 (pl (pl (pl (S9 1) (S9 9)) (S9 7)) (S9 15))] 31)).cell? ⟨W20.drew.heap.size, 0 + i, none⟩ = some (.int .u64 ((#[(pl (pl (pl (S9 0) (S9 8)) (S9 6)) (S9 14)), (pl (pl (pl (S9 1) (S9 9)) (S9 7)) (S9 15))].getD i 0 : Int))) := by
    intro i hi
    have hb := (MapKept.heap_alloc W20.drew (.cells #[.int .u64 (pl (pl (pl (S9 0) (S9 8)) (S9 6)) (S9 14)), .int .u64 (pl (pl (pl (S9 1) (S9 9)) (S9 7)) (S9 15))] 31)).1
    rw [blk_cell hb]
    rcases (by omega : i = 0 ∨ i = 1) with rfl | rfl
    all_goals rfl
  refine segN (S := fun V => Mw (bg [⟨g, 65, 16, stm s zz⟩]) [⟨g, 65, 16, (stm S9 zz)⟩] V ∧ Fr [] w V) (N := 234) (i := 46) (d := 125) (v := .slice (some ⟨W20.drew.heap.size, 0, none⟩) 2 2) h23 rfl rfl rfl (by decide) (by kernel_rfl) (op_bs (cs := #[.int .u64 (pl (pl (pl (S9 0) (S9 8)) (S9 6)) (S9 14)), .int .u64 (pl (pl (pl (S9 1) (S9 9)) (S9 7)) (S9 15))]) (vals := [(0, .int .u64 (pl (pl (pl (S9 0) (S9 8)) (S9 6)) (S9 14))), (1, .int .u64 (pl (pl (pl (S9 1) (S9 9)) (S9 7)) (S9 15)))]) rfl Tryd.underlying91 (by
    show [(0, a23.eval (.tmp 101)), (1, a23.eval (.tmp 124))] = _
    rw [h23.2 101 _ rfl, h23.2 124 _ rfl]
    rfl) (by kernel_rfl) (by decide) (by decide)) hS1 (fun a24 h24 d24 => ?_)
  have lY := hS0.2.size
  refine segR (S := fun V => Mw (bg [⟨g, 65, 16, stm s zz⟩]) [⟨g, 65, 16, (stm S9 zz)⟩] V ∧ Fr [] w V) (N := 234) (j := 47) (d := 126) (f := 24) (args := [.v (.slice (some ⟨W20.drew.heap.size, 0, none⟩) 2 2)]) h24 (by kernel_rfl) (by kernel_rfl) Tryd.func24 rfl rfl (fun v W' => Wrote w (outS 16 s) v W') ((hw_walk 21 2 _ 2 (fun i => (#[(pl (pl (pl (S9 0) (S9 8)) (S9 6)) (S9 14)), (pl (pl (pl (S9 1) (S9 9)) (S9 7)) (S9 15))].getD i 0 : Int)) _ _ hcell (by decide) (by decide) (hw_two _ _)).mono fun e W' hh => ?_) (fun a25 v W25 h25 d25 hR hS2 => ?_)
  · obtain ⟨v, rfl, hW⟩ := hh
    subst hS9
    refine ⟨v, rfl, ⟨Kd.R_base hW.1 (Nat.le_trans lY B0.size), ?_⟩, hS1.1.onB hW.2, hS1.2.trans (Fr.ofBelow _ hW.2)⟩
    exact (hS1.2.trans (Fr.ofBelow [] hW.2)).below _ (Nat.le_refl _) (by simp)
  refine segP (S := fun V => Mw (bg [⟨g, 65, 16, stm s zz⟩]) [⟨g, 65, 16, (stm S9 zz)⟩] V ∧ Fr [] w V) (T := TT) (M := bm [⟨g, 65, 16, (stm S9 zz)⟩]) (N := 234) tabOk (fun V h => h.1.mem) (fun _ _ _ _ hd h => And.intro (hd.trans (And.left h)) (And.right h)) hS2 [48] 0 [(6, .v v)] h25 (by kernel_rfl) (by kernel_rfl) ⟨by kernel_rfl, trivial⟩ (fun a26 h26 d26 => ?_)
  refine segE (by kernel_rfl) ?_
  show Code.wp _ _ _ _ _
  refine wp_ret ?_
  exact ⟨d26.trans (d25.trans (d24.trans (d23.trans d22))), _, results_tmp rfl _ _ _, v, congrArg Ending.returned (h26.2 6 _ rfl), hR⟩
end Go.Proofs.YtnehminojlocoaaDoor.PAll
namespace Go.Proofs.YtnehminojlocoaaDoor.PAll
open Go.RowKit Go.Proofs.YtnehminojlocoaaDoorW.PrintWords Go.Proofs.YtnehminojlocoaaDoorW.PrintLast Go.Proofs.YtnehminojlocoaaDoorW.PrintMore
set_option linter.unusedVariables false
set_option linter.unusedSimpArgs false
set_option maxHeartbeats 8000000 in
set_option maxRecDepth 100000 in
theorem hw_fin32 (g : Nat) (s : Nat → Int) (w W0 : World) (a0 : Act) (hg : w.heap.size ≤ g) (M0 : Mw (bg [⟨g, 65, 16, stm s zz⟩]) [⟨g, 65, 16, stm s zz⟩] W0) (F0 : Fr [] w W0) (h0 : Has 234 (bg [⟨g, 65, 16, stm s zz⟩]) [(7, .p 0 0), (39, .v (.int .i64 32))] a0) (d0 : a0.defers = []) :
    Code.wp Tryd.prog hwyB (Exit.then (Code.wp Tryd.prog hwyC (bodyPost Tryd.prog Tryd.f11 fun e w' => ∃ v, e = .returned v ∧ Wrote w (outS 32 s) v w')) (bodyPost Tryd.prog Tryd.f11 fun e w' => ∃ v, e = .returned v ∧ Wrote w (outS 32 s) v w')) a0 W0 := by
  refine wp_block ?_
  refine wp_seq ?_
  refine regM_seq (N := 234) (T := TT) (n := 2) (E2 := [(7, .p 0 0), (39, .v (.int .i64 32)), (40, .v (.bool false))]) tabOk h0 M0 rfl (by kernel_rfl) ⟨by kernel_rfl, by kernel_rfl, by kernel_rfl, trivial⟩ (fun a1 h1 d1 => ?_)
  show Code.wp _ _ _ _ _
  replace d1 := d1.trans d0
  clear h0 d0
  refine wp_cond_false (h1.2 40 _ rfl) ?_
  refine wp_seq ?_
  refine regM_seq (N := 234) (T := TT) (n := 2) (E2 := [(7, .p 0 0), (39, .v (.int .i64 32)), (72, .v (.bool false))]) tabOk h1 M0 rfl (by kernel_rfl) ⟨by kernel_rfl, by kernel_rfl, by kernel_rfl, trivial⟩ (fun a2 h2 d2 => ?_)
  show Code.wp _ _ _ _ _
  replace d2 := d2.trans d1
  clear h1 d1
  refine wp_cond_false (h2.2 72 _ rfl) ?_
  refine wp_skip ?_
  show Code.wp _ _ _ _ _
  replace h2 := sub_ok (E := [(7, .p 0 0)]) h2 ⟨by kernel_rfl, trivial⟩
  refine wp_seq ?_
  refine wp_seq ?_
  refine regM_seq (N := 234) (T := TT) (n := 1) (E2 := [(7, .p 0 0), (127, .v (.int .i64 0))]) tabOk h2 M0 rfl (by kernel_rfl) ⟨by kernel_rfl, by kernel_rfl, trivial⟩ (fun a3 h3 d3 => ?_)
  show Code.wp _ _ _ _ _
  replace d3 := d3.trans d2
  clear h2 d2
  refine wp_block ?_
  refine wp_loop_rounds 11 ?_
  rw [rounds_succ]
  refine wp_seq ?_
  refine regM_seq (N := 234) (T := TT) (n := 1) (E2 := [(7, .p 0 0), (127, .v (.int .i64 0)), (128, .v (.bool true))]) tabOk h3 M0 rfl (by kernel_rfl) ⟨by kernel_rfl, by kernel_rfl, by kernel_rfl, trivial⟩ (fun a4 h4 d4 => ?_)
  show Code.wp _ _ _ _ _
  replace d4 := d4.trans d3
  clear h3 d3
  refine wp_seq ?_
  refine wp_cond_true (h4.2 128 _ rfl) ?_
  refine wp_skip ?_
  show Code.wp _ _ _ _ _
  refine wp_seq ?_
  refine wp_block ?_
  refine wp_region ?_
  refine ops_ (N := 234) (M := fun _ _ => none) (T := TT) (E' := [(129, .p 0 0), (7, .p 0 0), (127, .v (.int .i64 0))]) tabOk noMem [1] [0] (by kernel_rfl) (sub_ok (E := [(7, .p 0 0), (127, .v (.int .i64 0))]) h4 ⟨by kernel_rfl, by kernel_rfl, trivial⟩) (fun b1 g1 e1 => ?_)
  refine call_ops (N := 234) (i := 1) (d := 130) (f := 23) (args := [.p 0 0]) (l := []) rfl rfl rfl (by decide) g1 Tryd.func23 rfl rfl rfl (by kernel_rfl) (fun v W' => (⟨g, 65, 16, stm (mxS 1 s) zz⟩ : Bl).In W' ∧ Fr [g] W0 W') ((mixed_walk g 65 s zz _ (M0.2.get (k := 0) rfl)).mono fun e W' hh => ⟨_, hh.1, hh.2⟩) (fun v W5 b2 hR g2 e2 => ?_)
  obtain ⟨I5, G5⟩ := hR
  have M5 : Mw (bg [⟨g, 65, 16, stm s zz⟩]) [⟨g, 65, 16, (stm (mxS 1 s) zz)⟩] W5 := ⟨bg_set [⟨g, 65, 16, stm s zz⟩] 0 (stm (mxS 1 s) zz), I5, by simp, trivial⟩
  have F5 := Fr.comp F0 G5 (fun x hx => Or.inr (by simp at hx; subst hx; exact hg))
  have h5 := sub_ok (E := [(7, .p 0 0), (127, .v (.int .i64 0))]) g2 ⟨by kernel_rfl, by kernel_rfl, trivial⟩
  have d5 := e2.trans (e1.trans d4)
  clear g1 g2 e1 e2 h4 d4 M0 F0 G5 I5
  show Code.wp _ _ _ _ _
  refine regM_seq (N := 234) (T := TT) (n := 2) (E2 := [(7, .p 0 0), (127, .v (.int .i64 1))]) tabOk h5 M5 rfl (by kernel_rfl) ⟨by kernel_rfl, by kernel_rfl, trivial⟩ (fun a6 h6 d6 => ?_)
  replace d6 := d6.trans d5
  clear h5 d5
  show Code.rounds _ _ _ _ _ _
  rw [rounds_succ]
  refine wp_seq ?_
  refine regM_seq (N := 234) (T := TT) (n := 1) (E2 := [(7, .p 0 0), (127, .v (.int .i64 1)), (128, .v (.bool true))]) tabOk h6 M5 rfl (by kernel_rfl) ⟨by kernel_rfl, by kernel_rfl, by kernel_rfl, trivial⟩ (fun a7 h7 d7 => ?_)
  show Code.wp _ _ _ _ _
  replace d7 := d7.trans d6
  clear h6 d6
  refine wp_seq ?_
  refine wp_cond_true (h7.2 128 _ rfl) ?_
  refine wp_skip ?_
  show Code.wp _ _ _ _ _
  refine wp_seq ?_
  refine wp_block ?_
  refine wp_region ?_
  refine ops_ (N := 234) (M := fun _ _ => none) (T := TT) (E' := [(129, .p 0 0), (7, .p 0 0), (127, .v (.int .i64 1))]) tabOk noMem [1] [0] (by kernel_rfl) (sub_ok (E := [(7, .p 0 0), (127, .v (.int .i64 1))]) h7 ⟨by kernel_rfl, by kernel_rfl, trivial⟩) (fun b1 g1 e1 => ?_)
  refine call_ops (N := 234) (i := 1) (d := 130) (f := 23) (args := [.p 0 0]) (l := []) rfl rfl rfl (by decide) g1 Tryd.func23 rfl rfl rfl (by kernel_rfl) (fun v W' => (⟨g, 65, 16, stm (mxS 2 s) zz⟩ : Bl).In W' ∧ Fr [g] W5 W') ((mixed_walk g 65 (mxS 1 s) zz _ (M5.2.get (k := 0) rfl)).mono fun e W' hh => ⟨_, hh.1, hh.2⟩) (fun v W8 b2 hR g2 e2 => ?_)
  obtain ⟨I8, G8⟩ := hR
  have M8 : Mw (bg [⟨g, 65, 16, stm s zz⟩]) [⟨g, 65, 16, (stm (mxS 2 s) zz)⟩] W8 := ⟨bg_set [⟨g, 65, 16, stm s zz⟩] 0 (stm (mxS 2 s) zz), I8, by simp, trivial⟩
  have F8 := Fr.comp F5 G8 (fun x hx => Or.inr (by simp at hx; subst hx; exact hg))
  have h8 := sub_ok (E := [(7, .p 0 0), (127, .v (.int .i64 1))]) g2 ⟨by kernel_rfl, by kernel_rfl, trivial⟩
  have d8 := e2.trans (e1.trans d7)
  clear g1 g2 e1 e2 h7 d7 M5 F5 G8 I8
  show Code.wp _ _ _ _ _
  refine regM_seq (N := 234) (T := TT) (n := 2) (E2 := [(7, .p 0 0), (127, .v (.int .i64 2))]) tabOk h8 M8 rfl (by kernel_rfl) ⟨by kernel_rfl, by kernel_rfl, trivial⟩ (fun a9 h9 d9 => ?_)
  replace d9 := d9.trans d8
  clear h8 d8
  show Code.rounds _ _ _ _ _ _
  rw [rounds_succ]
  refine wp_seq ?_
  refine regM_seq (N := 234) (T := TT) (n := 1) (E2 := [(7, .p 0 0), (127, .v (.int .i64 2)), (128, .v (.bool true))]) tabOk h9 M8 rfl (by kernel_rfl) ⟨by kernel_rfl, by kernel_rfl, by kernel_rfl, trivial⟩ (fun a10 h10 d10 => ?_)
  show Code.wp _ _ _ _ _
  replace d10 := d10.trans d9
  clear h9 d9
  refine wp_seq ?_
  refine wp_cond_true (h10.2 128 _ rfl) ?_
  refine wp_skip ?_
  show Code.wp _ _ _ _ _
  refine wp_seq ?_
  refine wp_block ?_
  refine wp_region ?_
  refine ops_ (N := 234) (M := fun _ _ => none) (T := TT) (E' := [(129, .p 0 0), (7, .p 0 0), (127, .v (.int .i64 2))]) tabOk noMem [1] [0] (by kernel_rfl) (sub_ok (E := [(7, .p 0 0), (127, .v (.int .i64 2))]) h10 ⟨by kernel_rfl, by kernel_rfl, trivial⟩) (fun b1 g1 e1 => ?_)
  refine call_ops (N := 234) (i := 1) (d := 130) (f := 23) (args := [.p 0 0]) (l := []) rfl rfl rfl (by decide) g1 Tryd.func23 rfl rfl rfl (by kernel_rfl) (fun v W' => (⟨g, 65, 16, stm (mxS 3 s) zz⟩ : Bl).In W' ∧ Fr [g] W8 W') ((mixed_walk g 65 (mxS 2 s) zz _ (M8.2.get (k := 0) rfl)).mono fun e W' hh => ⟨_, hh.1, hh.2⟩) (fun v W11 b2 hR g2 e2 => ?_)
  obtain ⟨I11, G11⟩ := hR
  have M11 : Mw (bg [⟨g, 65, 16, stm s zz⟩]) [⟨g, 65, 16, (stm (mxS 3 s) zz)⟩] W11 := ⟨bg_set [⟨g, 65, 16, stm s zz⟩] 0 (stm (mxS 3 s) zz), I11, by simp, trivial⟩
  have F11 := Fr.comp F8 G11 (fun x hx => Or.inr (by simp at hx; subst hx; exact hg))
  have h11 := sub_ok (E := [(7, .p 0 0), (127, .v (.int .i64 2))]) g2 ⟨by kernel_rfl, by kernel_rfl, trivial⟩
  have d11 := e2.trans (e1.trans d10)
  clear g1 g2 e1 e2 h10 d10 M8 F8 G11 I11
  show Code.wp _ _ _ _ _
  refine regM_seq (N := 234) (T := TT) (n := 2) (E2 := [(7, .p 0 0), (127, .v (.int .i64 3))]) tabOk h11 M11 rfl (by kernel_rfl) ⟨by kernel_rfl, by kernel_rfl, trivial⟩ (fun a12 h12 d12 => ?_)
  replace d12 := d12.trans d11
  clear h11 d11
  show Code.rounds _ _ _ _ _ _
  rw [rounds_succ]
  refine wp_seq ?_
  refine regM_seq (N := 234) (T := TT) (n := 1) (E2 := [(7, .p 0 0), (127, .v (.int .i64 3)), (128, .v (.bool true))]) tabOk h12 M11 rfl (by kernel_rfl) ⟨by kernel_rfl, by kernel_rfl, by kernel_rfl, trivial⟩ (fun a13 h13 d13 => ?_)
  show Code.wp _ _ _ _ _
  replace d13 := d13.trans d12
  clear h12 d12
  refine wp_seq ?_
  refine wp_cond_true (h13.2 128 _ rfl) ?_
  refine wp_skip ?_
  show Code.wp _ _ _ _ _
  refine wp_seq ?_
  refine wp_block ?_
  refine wp_region ?_
  refine ops_ (N := 234) (M := fun _ _ => none) (T := TT) (E' := [(129, .p 0 0), (7, .p 0 0), (127, .v (.int .i64 3))]) tabOk noMem [1] [0] (by kernel_rfl) (sub_ok (E := [(7, .p 0 0), (127, .v (.int .i64 3))]) h13 ⟨by kernel_rfl, by kernel_rfl, trivial⟩) (fun b1 g1 e1 => ?_)
  refine call_ops (N := 234) (i := 1) (d := 130) (f := 23) (args := [.p 0 0]) (l := []) rfl rfl rfl (by decide) g1 Tryd.func23 rfl rfl rfl (by kernel_rfl) (fun v W' => (⟨g, 65, 16, stm (mxS 4 s) zz⟩ : Bl).In W' ∧ Fr [g] W11 W') ((mixed_walk g 65 (mxS 3 s) zz _ (M11.2.get (k := 0) rfl)).mono fun e W' hh => ⟨_, hh.1, hh.2⟩) (fun v W14 b2 hR g2 e2 => ?_)
  obtain ⟨I14, G14⟩ := hR
  have M14 : Mw (bg [⟨g, 65, 16, stm s zz⟩]) [⟨g, 65, 16, (stm (mxS 4 s) zz)⟩] W14 := ⟨bg_set [⟨g, 65, 16, stm s zz⟩] 0 (stm (mxS 4 s) zz), I14, by simp, trivial⟩
  have F14 := Fr.comp F11 G14 (fun x hx => Or.inr (by simp at hx; subst hx; exact hg))
  have h14 := sub_ok (E := [(7, .p 0 0), (127, .v (.int .i64 3))]) g2 ⟨by kernel_rfl, by kernel_rfl, trivial⟩
  have d14 := e2.trans (e1.trans d13)
  clear g1 g2 e1 e2 h13 d13 M11 F11 G14 I14
  show Code.wp _ _ _ _ _
  refine regM_seq (N := 234) (T := TT) (n := 2) (E2 := [(7, .p 0 0), (127, .v (.int .i64 4))]) tabOk h14 M14 rfl (by kernel_rfl) ⟨by kernel_rfl, by kernel_rfl, trivial⟩ (fun a15 h15 d15 => ?_)
  replace d15 := d15.trans d14
  clear h14 d14
  show Code.rounds _ _ _ _ _ _
  rw [rounds_succ]
  refine wp_seq ?_
  refine regM_seq (N := 234) (T := TT) (n := 1) (E2 := [(7, .p 0 0), (127, .v (.int .i64 4)), (128, .v (.bool true))]) tabOk h15 M14 rfl (by kernel_rfl) ⟨by kernel_rfl, by kernel_rfl, by kernel_rfl, trivial⟩ (fun a16 h16 d16 => ?_)
  show Code.wp _ _ _ _ _
  replace d16 := d16.trans d15
  clear h15 d15
  refine wp_seq ?_
  refine wp_cond_true (h16.2 128 _ rfl) ?_
  refine wp_skip ?_
  show Code.wp _ _ _ _ _
  refine wp_seq ?_
  refine wp_block ?_
  refine wp_region ?_
  refine ops_ (N := 234) (M := fun _ _ => none) (T := TT) (E' := [(129, .p 0 0), (7, .p 0 0), (127, .v (.int .i64 4))]) tabOk noMem [1] [0] (by kernel_rfl) (sub_ok (E := [(7, .p 0 0), (127, .v (.int .i64 4))]) h16 ⟨by kernel_rfl, by kernel_rfl, trivial⟩) (fun b1 g1 e1 => ?_)
  refine call_ops (N := 234) (i := 1) (d := 130) (f := 23) (args := [.p 0 0]) (l := []) rfl rfl rfl (by decide) g1 Tryd.func23 rfl rfl rfl (by kernel_rfl) (fun v W' => (⟨g, 65, 16, stm (mxS 5 s) zz⟩ : Bl).In W' ∧ Fr [g] W14 W') ((mixed_walk g 65 (mxS 4 s) zz _ (M14.2.get (k := 0) rfl)).mono fun e W' hh => ⟨_, hh.1, hh.2⟩) (fun v W17 b2 hR g2 e2 => ?_)
  obtain ⟨I17, G17⟩ := hR
  have M17 : Mw (bg [⟨g, 65, 16, stm s zz⟩]) [⟨g, 65, 16, (stm (mxS 5 s) zz)⟩] W17 := ⟨bg_set [⟨g, 65, 16, stm s zz⟩] 0 (stm (mxS 5 s) zz), I17, by simp, trivial⟩
  have F17 := Fr.comp F14 G17 (fun x hx => Or.inr (by simp at hx; subst hx; exact hg))
  have h17 := sub_ok (E := [(7, .p 0 0), (127, .v (.int .i64 4))]) g2 ⟨by kernel_rfl, by kernel_rfl, trivial⟩
  have d17 := e2.trans (e1.trans d16)
  clear g1 g2 e1 e2 h16 d16 M14 F14 G17 I17
  show Code.wp _ _ _ _ _
  refine regM_seq (N := 234) (T := TT) (n := 2) (E2 := [(7, .p 0 0), (127, .v (.int .i64 5))]) tabOk h17 M17 rfl (by kernel_rfl) ⟨by kernel_rfl, by kernel_rfl, trivial⟩ (fun a18 h18 d18 => ?_)
  replace d18 := d18.trans d17
  clear h17 d17
  show Code.rounds _ _ _ _ _ _
  rw [rounds_succ]
  refine wp_seq ?_
  refine regM_seq (N := 234) (T := TT) (n := 1) (E2 := [(7, .p 0 0), (127, .v (.int .i64 5)), (128, .v (.bool true))]) tabOk h18 M17 rfl (by kernel_rfl) ⟨by kernel_rfl, by kernel_rfl, by kernel_rfl, trivial⟩ (fun a19 h19 d19 => ?_)
  show Code.wp _ _ _ _ _
  replace d19 := d19.trans d18
  clear h18 d18
  refine wp_seq ?_
  refine wp_cond_true (h19.2 128 _ rfl) ?_
  refine wp_skip ?_
  show Code.wp _ _ _ _ _
  refine wp_seq ?_
  refine wp_block ?_
  refine wp_region ?_
  refine ops_ (N := 234) (M := fun _ _ => none) (T := TT) (E' := [(129, .p 0 0), (7, .p 0 0), (127, .v (.int .i64 5))]) tabOk noMem [1] [0] (by kernel_rfl) (sub_ok (E := [(7, .p 0 0), (127, .v (.int .i64 5))]) h19 ⟨by kernel_rfl, by kernel_rfl, trivial⟩) (fun b1 g1 e1 => ?_)
  refine call_ops (N := 234) (i := 1) (d := 130) (f := 23) (args := [.p 0 0]) (l := []) rfl rfl rfl (by decide) g1 Tryd.func23 rfl rfl rfl (by kernel_rfl) (fun v W' => (⟨g, 65, 16, stm (mxS 6 s) zz⟩ : Bl).In W' ∧ Fr [g] W17 W') ((mixed_walk g 65 (mxS 5 s) zz _ (M17.2.get (k := 0) rfl)).mono fun e W' hh => ⟨_, hh.1, hh.2⟩) (fun v W20 b2 hR g2 e2 => ?_)
  obtain ⟨I20, G20⟩ := hR
  have M20 : Mw (bg [⟨g, 65, 16, stm s zz⟩]) [⟨g, 65, 16, (stm (mxS 6 s) zz)⟩] W20 := ⟨bg_set [⟨g, 65, 16, stm s zz⟩] 0 (stm (mxS 6 s) zz), I20, by simp, trivial⟩
  have F20 := Fr.comp F17 G20 (fun x hx => Or.inr (by simp at hx; subst hx; exact hg))
  have h20 := sub_ok (E := [(7, .p 0 0), (127, .v (.int .i64 5))]) g2 ⟨by kernel_rfl, by kernel_rfl, trivial⟩
  have d20 := e2.trans (e1.trans d19)
  clear g1 g2 e1 e2 h19 d19 M17 F17 G20 I20
  show Code.wp _ _ _ _ _
  refine regM_seq (N := 234) (T := TT) (n := 2) (E2 := [(7, .p 0 0), (127, .v (.int .i64 6))]) tabOk h20 M20 rfl (by kernel_rfl) ⟨by kernel_rfl, by kernel_rfl, trivial⟩ (fun a21 h21 d21 => ?_)
  replace d21 := d21.trans d20
  clear h20 d20
  show Code.rounds _ _ _ _ _ _
  rw [rounds_succ]
  refine wp_seq ?_
  refine regM_seq (N := 234) (T := TT) (n := 1) (E2 := [(7, .p 0 0), (127, .v (.int .i64 6)), (128, .v (.bool true))]) tabOk h21 M20 rfl (by kernel_rfl) ⟨by kernel_rfl, by kernel_rfl, by kernel_rfl, trivial⟩ (fun a22 h22 d22 => ?_)
  show Code.wp _ _ _ _ _
  replace d22 := d22.trans d21
  clear h21 d21
  refine wp_seq ?_
  refine wp_cond_true (h22.2 128 _ rfl) ?_
  refine wp_skip ?_
  show Code.wp _ _ _ _ _
  refine wp_seq ?_
  refine wp_block ?_
  refine wp_region ?_
  refine ops_ (N := 234) (M := fun _ _ => none) (T := TT) (E' := [(129, .p 0 0), (7, .p 0 0), (127, .v (.int .i64 6))]) tabOk noMem [1] [0] (by kernel_rfl) (sub_ok (E := [(7, .p 0 0), (127, .v (.int .i64 6))]) h22 ⟨by kernel_rfl, by kernel_rfl, trivial⟩) (fun b1 g1 e1 => ?_)
  refine call_ops (N := 234) (i := 1) (d := 130) (f := 23) (args := [.p 0 0]) (l := []) rfl rfl rfl (by decide) g1 Tryd.func23 rfl rfl rfl (by kernel_rfl) (fun v W' => (⟨g, 65, 16, stm (mxS 7 s) zz⟩ : Bl).In W' ∧ Fr [g] W20 W') ((mixed_walk g 65 (mxS 6 s) zz _ (M20.2.get (k := 0) rfl)).mono fun e W' hh => ⟨_, hh.1, hh.2⟩) (fun v W23 b2 hR g2 e2 => ?_)
  obtain ⟨I23, G23⟩ := hR
  have M23 : Mw (bg [⟨g, 65, 16, stm s zz⟩]) [⟨g, 65, 16, (stm (mxS 7 s) zz)⟩] W23 := ⟨bg_set [⟨g, 65, 16, stm s zz⟩] 0 (stm (mxS 7 s) zz), I23, by simp, trivial⟩
  have F23 := Fr.comp F20 G23 (fun x hx => Or.inr (by simp at hx; subst hx; exact hg))
  have h23 := sub_ok (E := [(7, .p 0 0), (127, .v (.int .i64 6))]) g2 ⟨by kernel_rfl, by kernel_rfl, trivial⟩
  have d23 := e2.trans (e1.trans d22)
  clear g1 g2 e1 e2 h22 d22 M20 F20 G23 I23
  show Code.wp _ _ _ _ _
  refine regM_seq (N := 234) (T := TT) (n := 2) (E2 := [(7, .p 0 0), (127, .v (.int .i64 7))]) tabOk h23 M23 rfl (by kernel_rfl) ⟨by kernel_rfl, by kernel_rfl, trivial⟩ (fun a24 h24 d24 => ?_)
  replace d24 := d24.trans d23
  clear h23 d23
  show Code.rounds _ _ _ _ _ _
  rw [rounds_succ]
  refine wp_seq ?_
  refine regM_seq (N := 234) (T := TT) (n := 1) (E2 := [(7, .p 0 0), (127, .v (.int .i64 7)), (128, .v (.bool true))]) tabOk h24 M23 rfl (by kernel_rfl) ⟨by kernel_rfl, by kernel_rfl, by kernel_rfl, trivial⟩ (fun a25 h25 d25 => ?_)
  show Code.wp _ _ _ _ _
  replace d25 := d25.trans d24
  clear h24 d24
  refine wp_seq ?_
  refine wp_cond_true (h25.2 128 _ rfl) ?_
  refine wp_skip ?_
  show Code.wp _ _ _ _ _
  refine wp_seq ?_
  refine wp_block ?_
  refine wp_region ?_
  refine ops_ (N := 234) (M := fun _ _ => none) (T := TT) (E' := [(129, .p 0 0), (7, .p 0 0), (127, .v (.int .i64 7))]) tabOk noMem [1] [0] (by kernel_rfl) (sub_ok (E := [(7, .p 0 0), (127, .v (.int .i64 7))]) h25 ⟨by kernel_rfl, by kernel_rfl, trivial⟩) (fun b1 g1 e1 => ?_)
  refine call_ops (N := 234) (i := 1) (d := 130) (f := 23) (args := [.p 0 0]) (l := []) rfl rfl rfl (by decide) g1 Tryd.func23 rfl rfl rfl (by kernel_rfl) (fun v W' => (⟨g, 65, 16, stm (mxS 8 s) zz⟩ : Bl).In W' ∧ Fr [g] W23 W') ((mixed_walk g 65 (mxS 7 s) zz _ (M23.2.get (k := 0) rfl)).mono fun e W' hh => ⟨_, hh.1, hh.2⟩) (fun v W26 b2 hR g2 e2 => ?_)
  obtain ⟨I26, G26⟩ := hR
  have M26 : Mw (bg [⟨g, 65, 16, stm s zz⟩]) [⟨g, 65, 16, (stm (mxS 8 s) zz)⟩] W26 := ⟨bg_set [⟨g, 65, 16, stm s zz⟩] 0 (stm (mxS 8 s) zz), I26, by simp, trivial⟩
  have F26 := Fr.comp F23 G26 (fun x hx => Or.inr (by simp at hx; subst hx; exact hg))
  have h26 := sub_ok (E := [(7, .p 0 0), (127, .v (.int .i64 7))]) g2 ⟨by kernel_rfl, by kernel_rfl, trivial⟩
  have d26 := e2.trans (e1.trans d25)
  clear g1 g2 e1 e2 h25 d25 M23 F23 G26 I26
  show Code.wp _ _ _ _ _
  refine regM_seq (N := 234) (T := TT) (n := 2) (E2 := [(7, .p 0 0), (127, .v (.int .i64 8))]) tabOk h26 M26 rfl (by kernel_rfl) ⟨by kernel_rfl, by kernel_rfl, trivial⟩ (fun a27 h27 d27 => ?_)
  replace d27 := d27.trans d26
  clear h26 d26
  show Code.rounds _ _ _ _ _ _
  rw [rounds_succ]
  refine wp_seq ?_
  refine regM_seq (N := 234) (T := TT) (n := 1) (E2 := [(7, .p 0 0), (127, .v (.int .i64 8)), (128, .v (.bool true))]) tabOk h27 M26 rfl (by kernel_rfl) ⟨by kernel_rfl, by kernel_rfl, by kernel_rfl, trivial⟩ (fun a28 h28 d28 => ?_)
  show Code.wp _ _ _ _ _
  replace d28 := d28.trans d27
  clear h27 d27
  refine wp_seq ?_
  refine wp_cond_true (h28.2 128 _ rfl) ?_
  refine wp_skip ?_
  show Code.wp _ _ _ _ _
  refine wp_seq ?_
  refine wp_block ?_
  refine wp_region ?_
  refine ops_ (N := 234) (M := fun _ _ => none) (T := TT) (E' := [(129, .p 0 0), (7, .p 0 0), (127, .v (.int .i64 8))]) tabOk noMem [1] [0] (by kernel_rfl) (sub_ok (E := [(7, .p 0 0), (127, .v (.int .i64 8))]) h28 ⟨by kernel_rfl, by kernel_rfl, trivial⟩) (fun b1 g1 e1 => ?_)
  refine call_ops (N := 234) (i := 1) (d := 130) (f := 23) (args := [.p 0 0]) (l := []) rfl rfl rfl (by decide) g1 Tryd.func23 rfl rfl rfl (by kernel_rfl) (fun v W' => (⟨g, 65, 16, stm (mxS 9 s) zz⟩ : Bl).In W' ∧ Fr [g] W26 W') ((mixed_walk g 65 (mxS 8 s) zz _ (M26.2.get (k := 0) rfl)).mono fun e W' hh => ⟨_, hh.1, hh.2⟩) (fun v W29 b2 hR g2 e2 => ?_)
  obtain ⟨I29, G29⟩ := hR
  have M29 : Mw (bg [⟨g, 65, 16, stm s zz⟩]) [⟨g, 65, 16, (stm (mxS 9 s) zz)⟩] W29 := ⟨bg_set [⟨g, 65, 16, stm s zz⟩] 0 (stm (mxS 9 s) zz), I29, by simp, trivial⟩
  have F29 := Fr.comp F26 G29 (fun x hx => Or.inr (by simp at hx; subst hx; exact hg))
  have h29 := sub_ok (E := [(7, .p 0 0), (127, .v (.int .i64 8))]) g2 ⟨by kernel_rfl, by kernel_rfl, trivial⟩
  have d29 := e2.trans (e1.trans d28)
  clear g1 g2 e1 e2 h28 d28 M26 F26 G29 I29
  show Code.wp _ _ _ _ _
  refine regM_seq (N := 234) (T := TT) (n := 2) (E2 := [(7, .p 0 0), (127, .v (.int .i64 9))]) tabOk h29 M29 rfl (by kernel_rfl) ⟨by kernel_rfl, by kernel_rfl, trivial⟩ (fun a30 h30 d30 => ?_)
  replace d30 := d30.trans d29
  clear h29 d29
  show Code.rounds _ _ _ _ _ _
  rw [rounds_succ]
  refine wp_seq ?_
  refine regM_seq (N := 234) (T := TT) (n := 1) (E2 := [(7, .p 0 0), (127, .v (.int .i64 9)), (128, .v (.bool true))]) tabOk h30 M29 rfl (by kernel_rfl) ⟨by kernel_rfl, by kernel_rfl, by kernel_rfl, trivial⟩ (fun a31 h31 d31 => ?_)
  show Code.wp _ _ _ _ _
  replace d31 := d31.trans d30
  clear h30 d30
  refine wp_seq ?_
  refine wp_cond_true (h31.2 128 _ rfl) ?_
  refine wp_skip ?_
  show Code.wp _ _ _ _ _
  refine wp_seq ?_
  refine wp_block ?_
  refine wp_region ?_
  refine ops_ (N := 234) (M := fun _ _ => none) (T := TT) (E' := [(129, .p 0 0), (7, .p 0 0), (127, .v (.int .i64 9))]) tabOk noMem [1] [0] (by kernel_rfl) (sub_ok (E := [(7, .p 0 0), (127, .v (.int .i64 9))]) h31 ⟨by kernel_rfl, by kernel_rfl, trivial⟩) (fun b1 g1 e1 => ?_)
  refine call_ops (N := 234) (i := 1) (d := 130) (f := 23) (args := [.p 0 0]) (l := []) rfl rfl rfl (by decide) g1 Tryd.func23 rfl rfl rfl (by kernel_rfl) (fun v W' => (⟨g, 65, 16, stm (mxS 10 s) zz⟩ : Bl).In W' ∧ Fr [g] W29 W') ((mixed_walk g 65 (mxS 9 s) zz _ (M29.2.get (k := 0) rfl)).mono fun e W' hh => ⟨_, hh.1, hh.2⟩) (fun v W32 b2 hR g2 e2 => ?_)
  obtain ⟨I32, G32⟩ := hR
  have M32 : Mw (bg [⟨g, 65, 16, stm s zz⟩]) [⟨g, 65, 16, (stm (mxS 10 s) zz)⟩] W32 := ⟨bg_set [⟨g, 65, 16, stm s zz⟩] 0 (stm (mxS 10 s) zz), I32, by simp, trivial⟩
  have F32 := Fr.comp F29 G32 (fun x hx => Or.inr (by simp at hx; subst hx; exact hg))
  have h32 := sub_ok (E := [(7, .p 0 0), (127, .v (.int .i64 9))]) g2 ⟨by kernel_rfl, by kernel_rfl, trivial⟩
  have d32 := e2.trans (e1.trans d31)
  clear g1 g2 e1 e2 h31 d31 M29 F29 G32 I32
  show Code.wp _ _ _ _ _
  refine regM_seq (N := 234) (T := TT) (n := 2) (E2 := [(7, .p 0 0), (127, .v (.int .i64 10))]) tabOk h32 M32 rfl (by kernel_rfl) ⟨by kernel_rfl, by kernel_rfl, trivial⟩ (fun a33 h33 d33 => ?_)
  replace d33 := d33.trans d32
  clear h32 d32
  show Code.rounds _ _ _ _ _ _
  rw [rounds_succ]
  refine wp_seq ?_
  refine regM_seq (N := 234) (T := TT) (n := 1) (E2 := [(7, .p 0 0), (127, .v (.int .i64 10)), (128, .v (.bool false))]) tabOk h33 M32 rfl (by kernel_rfl) ⟨by kernel_rfl, by kernel_rfl, by kernel_rfl, trivial⟩ (fun a34 h34 d34 => ?_)
  show Code.wp _ _ _ _ _
  replace d34 := d34.trans d33
  clear h33 d33
  refine wp_seq ?_
  refine wp_cond_false (h34.2 128 _ rfl) ?_
  refine wp_exit ?_
  refine then_exit (then_exit (exit_in ?_))
  show Code.wp _ _ _ _ _
  replace h34 := sub_ok (E := [(7, .p 0 0)]) h34 ⟨by kernel_rfl, trivial⟩
  generalize hS9 : mxS 10 s = S9 at M32
  refine wp_seq ?_
  refine reg_call_keep (S := fun V => Mw (bg [⟨g, 65, 16, stm s zz⟩]) [⟨g, 65, 16, (stm S9 zz)⟩] V ∧ Fr [] w V) (N := 234) (T := TT) (M := bm [⟨g, 65, 16, (stm S9 zz)⟩]) (j := 44) (l1 := [0, 1, 2, 3, 4, 5, 6, 7, 8, 9, 10, 11, 12, 13, 14, 15, 16, 17, 18, 19, 20, 21, 22, 23, 24, 25, 26, 27, 28, 29, 30, 31, 32, 33, 34, 35, 36, 37, 38, 39, 40, 41, 42, 43]) (l2 := [45, 46, 47, 48, 49]) (f := 25) (d := 177) (v := .tuple #[.int .u64 (rHi (pl (S9 5) (S9 13)) (pl (S9 4) (S9 12)) (pl (S9 1) (S9 9)) (pl (S9 0) (S9 8))), .int .u64 (rLo (pl (S9 5) (S9 13)) (pl (S9 4) (S9 12)) (pl (S9 1) (S9 9)) (pl (S9 0) (S9 8)))]) (args := [.v (.int .u64 (pl (S9 5) (S9 13))), .v (.int .u64 (pl (S9 4) (S9 12))), .v (.int .u64 (pl (S9 1) (S9 9))), .v (.int .u64 (pl (S9 0) (S9 8)))]) (E2 := [(7, .p 0 0), (8, .v (.int .u64 (rHi (pl (S9 5) (S9 13)) (pl (S9 4) (S9 12)) (pl (S9 1) (S9 9)) (pl (S9 0) (S9 8))))), (9, .v (.int .u64 (rLo (pl (S9 5) (S9 13)) (pl (S9 4) (S9 12)) (pl (S9 1) (S9 9)) (pl (S9 0) (S9 8)))))]) (by kernel_rfl) tabOk (fun V h => h.1.mem) h34 ⟨M32.drew, F32.drew⟩ rfl (by kernel_rfl) (by kernel_rfl) Tryd.func25 rfl rfl
    (fun V hV => (rd_walk (pl (S9 5) (S9 13)) (pl (S9 4) (S9 12)) (pl (S9 1) (S9 9)) (pl (S9 0) (S9 8)) V).mono fun e W' hh => ⟨hh.1, hV.1.onB hh.2, hV.2.trans (Fr.ofBelow _ hh.2)⟩) (by kernel_rfl) ⟨by kernel_rfl, by kernel_rfl, by kernel_rfl, trivial⟩ (fun _ _ _ _ hd h => And.intro (hd.trans (And.left h)) (And.right h)) (fun a35 W35 h35 d35 hV => ?_)
  show Code.wp _ _ _ _ _
  obtain ⟨M35, F35⟩ := hV
  replace d35 := d35.trans d34
  clear h34 d34 M32 F32
  refine wp_seq ?_
  refine reg_call_keep (S := fun V => Mw (bg [⟨g, 65, 16, stm s zz⟩]) [⟨g, 65, 16, (stm S9 zz)⟩] V ∧ Fr [] w V) (N := 234) (T := TT) (M := bm [⟨g, 65, 16, (stm S9 zz)⟩]) (j := 44) (l1 := [0, 1, 2, 3, 4, 5, 6, 7, 8, 9, 10, 11, 12, 13, 14, 15, 16, 17, 18, 19, 20, 21, 22, 23, 24, 25, 26, 27, 28, 29, 30, 31, 32, 33, 34, 35, 36, 37, 38, 39, 40, 41, 42, 43]) (l2 := [45, 46, 47, 48, 49]) (f := 25) (d := 225) (v := .tuple #[.int .u64 (rHi (pl (S9 7) (S9 15)) (pl (S9 6) (S9 14)) (pl (S9 3) (S9 11)) (pl (S9 2) (S9 10))), .int .u64 (rLo (pl (S9 7) (S9 15)) (pl (S9 6) (S9 14)) (pl (S9 3) (S9 11)) (pl (S9 2) (S9 10)))]) (args := [.v (.int .u64 (pl (S9 7) (S9 15))), .v (.int .u64 (pl (S9 6) (S9 14))), .v (.int .u64 (pl (S9 3) (S9 11))), .v (.int .u64 (pl (S9 2) (S9 10)))]) (E2 := [(7, .p 0 0), (8, .v (.int .u64 (rHi (pl (S9 5) (S9 13)) (pl (S9 4) (S9 12)) (pl (S9 1) (S9 9)) (pl (S9 0) (S9 8))))), (9, .v (.int .u64 (rLo (pl (S9 5) (S9 13)) (pl (S9 4) (S9 12)) (pl (S9 1) (S9 9)) (pl (S9 0) (S9 8))))), (10, .v (.int .u64 (rHi (pl (S9 7) (S9 15)) (pl (S9 6) (S9 14)) (pl (S9 3) (S9 11)) (pl (S9 2) (S9 10))))), (11, .v (.int .u64 (rLo (pl (S9 7) (S9 15)) (pl (S9 6) (S9 14)) (pl (S9 3) (S9 11)) (pl (S9 2) (S9 10)))))]) (by kernel_rfl) tabOk (fun V h => h.1.mem) h35 ⟨M35.drew, F35.drew⟩ rfl (by kernel_rfl) (by kernel_rfl) Tryd.func25 rfl rfl
    (fun V hV => (rd_walk (pl (S9 7) (S9 15)) (pl (S9 6) (S9 14)) (pl (S9 3) (S9 11)) (pl (S9 2) (S9 10)) V).mono fun e W' hh => ⟨hh.1, hV.1.onB hh.2, hV.2.trans (Fr.ofBelow _ hh.2)⟩) (by kernel_rfl) ⟨by kernel_rfl, by kernel_rfl, by kernel_rfl, by kernel_rfl, by kernel_rfl, trivial⟩ (fun _ _ _ _ hd h => And.intro (hd.trans (And.left h)) (And.right h)) (fun a36 W36 h36 d36 hV => ?_)
  show Code.wp _ _ _ _ _
  obtain ⟨M36, F36⟩ := hV
  replace d36 := d36.trans d35
  clear h35 d35 M35 F35
  refine wp_seq ?_
  refine wp_region ?_
  refine ops_ (N := 234) (M := fun _ _ => none) (T := TT) (E' := [(231, .v (.int .u64 (rHi (pl (S9 7) (S9 15)) (pl (S9 6) (S9 14)) (pl (S9 3) (S9 11)) (pl (S9 2) (S9 10))))), (230, .v (.int .u64 (rLo (pl (S9 7) (S9 15)) (pl (S9 6) (S9 14)) (pl (S9 3) (S9 11)) (pl (S9 2) (S9 10))))), (229, .v (.int .u64 (rHi (pl (S9 5) (S9 13)) (pl (S9 4) (S9 12)) (pl (S9 1) (S9 9)) (pl (S9 0) (S9 8))))), (228, .v (.int .u64 (rLo (pl (S9 5) (S9 13)) (pl (S9 4) (S9 12)) (pl (S9 1) (S9 9)) (pl (S9 0) (S9 8))))), (7, .p 0 0), (8, .v (.int .u64 (rHi (pl (S9 5) (S9 13)) (pl (S9 4) (S9 12)) (pl (S9 1) (S9 9)) (pl (S9 0) (S9 8))))), (9, .v (.int .u64 (rLo (pl (S9 5) (S9 13)) (pl (S9 4) (S9 12)) (pl (S9 1) (S9 9)) (pl (S9 0) (S9 8))))), (10, .v (.int .u64 (rHi (pl (S9 7) (S9 15)) (pl (S9 6) (S9 14)) (pl (S9 3) (S9 11)) (pl (S9 2) (S9 10))))), (11, .v (.int .u64 (rLo (pl (S9 7) (S9 15)) (pl (S9 6) (S9 14)) (pl (S9 3) (S9 11)) (pl (S9 2) (S9 10)))))]) tabOk noMem [4, 5, 6] [0, 1, 2, 3] (by kernel_rfl) h36 (fun b1 g1 e1 => ?_)
  have B0 : Below W36.heap.size W36 (W36.alloc (.cells #[.int .u64 (rLo (pl (S9 5) (S9 13)) (pl (S9 4) (S9 12)) (pl (S9 1) (S9 9)) (pl (S9 0) (S9 8))), .int .u64 (rHi (pl (S9 5) (S9 13)) (pl (S9 4) (S9 12)) (pl (S9 1) (S9 9)) (pl (S9 0) (S9 8))), .int .u64 (rLo (pl (S9 7) (S9 15)) (pl (S9 6) (S9 14)) (pl (S9 3) (S9 11)) (pl (S9 2) (S9 10))), .int .u64 (rHi (pl (S9 7) (S9 15)) (pl (S9 6) (S9 14)) (pl (S9 3) (S9 11)) (pl (S9 2) (S9 10)))] 31)) := (Below.refl _ _).alloc (Nat.le_refl _) _
  have F9 : Fr [] w (W36.alloc (.cells #[.int .u64 (rLo (pl (S9 5) (S9 13)) (pl (S9 4) (S9 12)) (pl (S9 1) (S9 9)) (pl (S9 0) (S9 8))), .int .u64 (rHi (pl (S9 5) (S9 13)) (pl (S9 4) (S9 12)) (pl (S9 1) (S9 9)) (pl (S9 0) (S9 8))), .int .u64 (rLo (pl (S9 7) (S9 15)) (pl (S9 6) (S9 14)) (pl (S9 3) (S9 11)) (pl (S9 2) (S9 10))), .int .u64 (rHi (pl (S9 7) (S9 15)) (pl (S9 6) (S9 14)) (pl (S9 3) (S9 11)) (pl (S9 2) (S9 10)))] 31)) := F36.trans (Fr.ofBelow _ B0)
  have hcell : ∀ i, i < 4 → (W36.alloc (.cells #[.int .u64 (rLo (pl (S9 5) (S9 13)) (pl (S9 4) (S9 12)) (pl (S9 1) (S9 9)) (pl (S9 0) (S9 8))), .int .u64 (rHi (pl (S9 5) (S9 13)) (pl (S9 4) (S9 12)) (pl (S9 1) (S9 9)) (pl (S9 0) (S9 8))), .int .u64 (rLo (pl (S9 7) (S9 15)) (pl (S9 6) (S9 14)) (pl (S9 3) (S9 11)) (pl (S9 2) (S9 10))), .int .u64 (rHi (pl (S9 7) (S9 15)) (pl (S9 6) (S9 14)) (pl (S9 3) (S9 11)) (pl (S9 2) (S9 10)))] 31)).cell? ⟨W36.heap.size, 0 + i, none⟩ = some (.int .u64 ((#[(rLo (pl (S9 5) (S9 13)) (pl (S9 4) (S9 12)) (pl (S9 1) (S9 9)) (pl (S9 0) (S9 8))), (rHi (pl (S9 5) (S9 13)) (pl (S9 4) (S9 12)) (pl (S9 1) (S9 9)) (pl (S9 0) (S9 8))), (rLo (pl (S9 7) (S9 15)) (pl (S9 6) (S9 14)) (pl (S9 3) (S9 11)) (pl (S9 2) (S9 10))), (rHi (pl (S9 7) (S9 15)) (pl (S9 6) (S9 14)) (pl (S9 3) (S9 11)) (pl (S9 2) (S9 10)))].getD i 0 : Int))) := by
    intro i hi
    have hb := (MapKept.heap_alloc W36 (.cells #[.int .u64 (rLo (pl (S9 5) (S9 13)) (pl (S9 4) (S9 12)) (pl (S9 1) (S9 9)) (pl (S9 0) (S9 8))), .int .u64 (rHi (pl (S9 5) (S9 13)) (pl (S9 4) (S9 12)) (pl (S9 1) (S9 9)) (pl (S9 0) (S9 8))), .int .u64 (rLo (pl (S9 7) (S9 15)) (pl (S9 6) (S9 14)) (pl (S9 3) (S9 11)) (pl (S9 2) (S9 10))), .int .u64 (rHi (pl (S9 7) (S9 15)) (pl (S9 6) (S9 14)) (pl (S9 3) (S9 11)) (pl (S9 2) (S9 10)))] 31)).1
    rw [blk_cell hb]
    rcases (by omega : i = 0 ∨ i = 1 ∨ i = 2 ∨ i = 3) with rfl | rfl | rfl | rfl
    all_goals rfl
  refine new_ops (N := 234) (i := 4) (d := 232) (v := .slice (some ⟨W36.heap.size, 0, none⟩) 4 4) (l := [5, 6]) rfl rfl rfl (by decide) g1 (op_bs (cs := #[.int .u64 (rLo (pl (S9 5) (S9 13)) (pl (S9 4) (S9 12)) (pl (S9 1) (S9 9)) (pl (S9 0) (S9 8))), .int .u64 (rHi (pl (S9 5) (S9 13)) (pl (S9 4) (S9 12)) (pl (S9 1) (S9 9)) (pl (S9 0) (S9 8))), .int .u64 (rLo (pl (S9 7) (S9 15)) (pl (S9 6) (S9 14)) (pl (S9 3) (S9 11)) (pl (S9 2) (S9 10))), .int .u64 (rHi (pl (S9 7) (S9 15)) (pl (S9 6) (S9 14)) (pl (S9 3) (S9 11)) (pl (S9 2) (S9 10)))]) (vals := [(0, .int .u64 (rLo (pl (S9 5) (S9 13)) (pl (S9 4) (S9 12)) (pl (S9 1) (S9 9)) (pl (S9 0) (S9 8)))), (1, .int .u64 (rHi (pl (S9 5) (S9 13)) (pl (S9 4) (S9 12)) (pl (S9 1) (S9 9)) (pl (S9 0) (S9 8)))), (2, .int .u64 (rLo (pl (S9 7) (S9 15)) (pl (S9 6) (S9 14)) (pl (S9 3) (S9 11)) (pl (S9 2) (S9 10)))), (3, .int .u64 (rHi (pl (S9 7) (S9 15)) (pl (S9 6) (S9 14)) (pl (S9 3) (S9 11)) (pl (S9 2) (S9 10))))]) rfl Tryd.underlying91 (by
    show [(0, b1.eval (.tmp 228)), (1, b1.eval (.tmp 229)), (2, b1.eval (.tmp 230)), (3, b1.eval (.tmp 231))] = _
    rw [g1.2 228 _ rfl, g1.2 229 _ rfl, g1.2 230 _ rfl, g1.2 231 _ rfl]
    rfl) (by kernel_rfl) (by decide) (by decide)) (fun b2 g2 e2 => ?_)
  refine call_ops (N := 234) (i := 5) (d := 233) (f := 24) (args := [.v (.slice (some ⟨W36.heap.size, 0, none⟩) 4 4)]) (l := [6]) rfl rfl rfl (by decide) g2 Tryd.func24 rfl rfl rfl (by kernel_rfl) (fun v W' => Wrote w (outS 32 s) v W') ((hw_walk 41 4 _ 4 (fun i => (#[(rLo (pl (S9 5) (S9 13)) (pl (S9 4) (S9 12)) (pl (S9 1) (S9 9)) (pl (S9 0) (S9 8))), (rHi (pl (S9 5) (S9 13)) (pl (S9 4) (S9 12)) (pl (S9 1) (S9 9)) (pl (S9 0) (S9 8))), (rLo (pl (S9 7) (S9 15)) (pl (S9 6) (S9 14)) (pl (S9 3) (S9 11)) (pl (S9 2) (S9 10))), (rHi (pl (S9 7) (S9 15)) (pl (S9 6) (S9 14)) (pl (S9 3) (S9 11)) (pl (S9 2) (S9 10)))].getD i 0 : Int)) _ _ hcell (by decide) (by decide) (hw_four _ _ _ _)).mono fun e W' hh => ?_) (fun v W' b3 hR g3 e3 => ?_)
  · obtain ⟨v, rfl, hW⟩ := hh
    subst hS9
    refine ⟨v, rfl, Kd.R_base hW.1 F9.size, ?_⟩
    exact (F9.trans (Fr.ofBelow [] hW.2)).below _ (Nat.le_refl _) (by simp)
  refine given_ops (N := 234) (i := 6) (d := 6) (v := v) (l := []) rfl rfl rfl (by decide) g3 (op_assign rfl (g3.2 233 _ rfl)) (fun b4 g4 e4 => ?_)
  show Code.wp _ _ _ _ _
  refine wp_ret ?_
  exact ⟨e4.trans (e3.trans (e2.trans (e1.trans d36))), _, results_tmp rfl _ _ _, v, congrArg Ending.returned (g4.2 6 _ rfl), hR⟩
end Go.Proofs.YtnehminojlocoaaDoor.PAll
namespace Go.Proofs.YtnehminojlocoaaDoor.PAll
open Go.RowKit Go.Proofs.YtnehminojlocoaaDoorW.PrintWords Go.Proofs.YtnehminojlocoaaDoorW.PrintLast Go.Proofs.YtnehminojlocoaaDoorW.PrintMore
set_option linter.unusedVariables false
set_option linter.unusedSimpArgs false
/-- k times 32 octets, by the published steps. -/
def upsN : Nat → (Nat → Int) → (Nat → Int) → Nat → Int
  | 0, s, _ => s
  | k + 1, s, x => US (upsN k s x) (lan (fun i => x (k * 32 + i)))
/-- The state at a text's end. -/
def hwS (y x : Nat → Int) (n : Nat) : Nat → Int := if n % 32 = 0 then upsN (n / 32) (newH (lan y)) x else remS (upsN (n / 32) (newH (lan y)) x) (n % 32) (fun i => x (n / 32 * 32 + i))
noncomputable def hwy5 : Code := match Tryd.f11.body with
  | some (.seq _ (.seq _ (.seq _ c))) => c
  | _ => .skip
noncomputable def hwy7 : Code := match Tryd.f11.body with
  | some (.seq _ (.seq _ (.seq _ (.seq _ c)))) => c
  | _ => .skip
noncomputable def hwy2 : Code := match Tryd.f11.body with
  | some (.seq _ (.seq _ c)) => c
  | _ => .skip
set_option maxHeartbeats 8000000 in
set_option maxRecDepth 100000 in
theorem hwy_7 (g : Nat) (sz : Int) (hsz : sz = 8 ∨ sz = 16 ∨ sz = 32) (s y x : Nat → Int) (n : Nat) (w W0 : World) (a0 : Act) (hg : w.heap.size ≤ g) (hs : s = hwS y x n) (I0 : (⟨g, 65, 16, stm s zz⟩ : Bl).In W0) (F0 : Fr [] w W0) (h0 : Has 234 (fun _ => g) [(0, .v (.int .i64 sz)), (7, .p 0 0)] a0) (d0 : a0.defers = []) :
    Code.wp Tryd.prog hwy7 (bodyPost Tryd.prog Tryd.f11 fun e w' => ∃ v, e = .returned v ∧ Wrote w (outS sz (hwS y x n)) v w') a0 W0 := by
  subst hs
  refine wp_seq ?_
  refine wp_seq ?_
  refine reg_seq (N := 234) (T := TT) (M := fun _ _ => none) (n := 1) (E2 := [(7, .p 0 0), (39, .v (.int .i64 sz))]) tabOk h0 noMem rfl (by kernel_rfl) ⟨by kernel_rfl, by kernel_rfl, trivial⟩ (fun a1 h1 d1 => ?_)
  show Code.wp _ _ _ _ _
  have M1 : Mw (bg [⟨g, 65, 16, stm (hwS y x n) zz⟩]) [⟨g, 65, 16, stm (hwS y x n) zz⟩] W0 := ⟨rfl, I0, by simp, trivial⟩
  have h2 := has_list (β := bg [⟨g, 65, 16, stm (hwS y x n) zz⟩]) h1.1 (E := [(7, .p 0 0), (39, .v (.int .i64 sz))]) ⟨h1.2 7 _ rfl, h1.2 39 _ rfl, trivial⟩
  rcases hsz with rfl | rfl | rfl
  · exact hw_fin8 g _ w W0 a1 hg M1 F0 h2 (d1.trans d0)
  · exact hw_fin16 g _ w W0 a1 hg M1 F0 h2 (d1.trans d0)
  · exact hw_fin32 g _ w W0 a1 hg M1 F0 h2 (d1.trans d0)
end Go.Proofs.YtnehminojlocoaaDoor.PAll
namespace Go.Proofs.YtnehminojlocoaaDoor.PAll
open Go.RowKit Go.Proofs.YtnehminojlocoaaDoorW.PrintWords Go.Proofs.YtnehminojlocoaaDoorW.PrintLast Go.Proofs.YtnehminojlocoaaDoorW.PrintMore
set_option linter.unusedVariables false
set_option linter.unusedSimpArgs false
set_option maxHeartbeats 8000000 in
set_option maxRecDepth 100000 in
theorem hwy_5 (g : Nat) (sz : Int) (hsz : sz = 8 ∨ sz = 16 ∨ sz = 32) (y x : Nat → Int) (b o n c : Nat) (A : Option Addr) (w W0 : World) (a0 : Act) (hg : w.heap.size ≤ g) (hc : n ≤ c) (hA : n / 32 * 32 < n → A = some ⟨b, o + n / 32 * 32, none⟩) (hb : n / 32 * 32 < n → b < w.heap.size) (hx : Bts b o n x w) (ox : Oct n x)
    (I0 : (⟨g, 65, 16, stm (upsN (n / 32) (newH (lan y)) x) zz⟩ : Bl).In W0) (F0 : Fr [] w W0) (h0 : Has 234 (fun _ => g) [(0, .v (.int .i64 sz)), (2, .v (.slice A (n - n / 32 * 32) (c - n / 32 * 32))), (7, .p 0 0)] a0) (d0 : a0.defers = []) :
    Code.wp Tryd.prog hwy5 (bodyPost Tryd.prog Tryd.f11 fun e w' => ∃ v, e = .returned v ∧ Wrote w (outS sz (hwS y x n)) v w') a0 W0 := by
  refine wp_seq ?_
  refine wp_seq ?_
  refine reg_seq (N := 234) (T := TT) (M := fun _ _ => none) (n := 3) (E2 := [(0, .v (.int .i64 sz)), (2, .v (.slice A (n - n / 32 * 32) (c - n / 32 * 32))), (7, .p 0 0), (35, .v (.bool (decide (((n - n / 32 * 32 : Nat) : Int) > 0))))]) tabOk h0 noMem rfl (by kernel_rfl) ⟨by kernel_rfl, by kernel_rfl, by kernel_rfl, by kernel_rfl, trivial⟩ (fun a1 h1 d1 => ?_)
  show Code.wp _ _ _ _ _
  by_cases hr : n % 32 = 0
  · refine wp_cond_false ((h1.2 35 _ rfl).trans (congrArg Value.bool (decide_eq_false (by omega)))) ?_
    refine wp_skip ?_
    show Code.wp _ _ _ _ _
    refine hwy_7 g sz hsz _ y x n w W0 a1 hg ?_ I0 F0 (sub_ok h1 ⟨by kernel_rfl, by kernel_rfl, trivial⟩) (d1.trans d0)
    unfold hwS
    rw [if_pos hr]
  · refine wp_cond_true ((h1.2 35 _ rfl).trans (congrArg Value.bool (decide_eq_true (by omega)))) ?_
    have hA' := hA (by omega)
    have hb' := hb (by omega)
    subst hA'
    refine wp_region ?_
    refine ops_ (N := 234) (M := fun _ _ => none) (T := TT) (E' := [(37, .v (.slice (some ⟨b, o + n / 32 * 32, none⟩) (n - n / 32 * 32) (c - n / 32 * 32))), (36, .p 0 0), (0, .v (.int .i64 sz)), (2, .v (.slice (some ⟨b, o + n / 32 * 32, none⟩) (n - n / 32 * 32) (c - n / 32 * 32))), (7, .p 0 0)]) tabOk noMem [2] [0, 1] (by kernel_rfl) (sub_ok (E := [(0, .v (.int .i64 sz)), (2, .v (.slice (some ⟨b, o + n / 32 * 32, none⟩) (n - n / 32 * 32) (c - n / 32 * 32))), (7, .p 0 0)]) h1 ⟨by kernel_rfl, by kernel_rfl, by kernel_rfl, trivial⟩) (fun a2 h2 d2 => ?_)
    have e : n - n / 32 * 32 = n % 32 := by omega
    have key := remainder_walk g 65 b (o + n / 32 * 32) (n - n / 32 * 32) (c - n / 32 * 32) (upsN (n / 32) (newH (lan y)) x) (fun i => x (n / 32 * 32 + i)) zz W0 I0 (by omega) (by omega) (by omega) (by omega) ((hx.on F0 (by simp)).from (n / 32 * 32) (n - n / 32 * 32) (by omega)) (ox.from (n / 32 * 32) (n - n / 32 * 32) (by omega))
    refine call_ops (N := 234) (i := 2) (d := 38) (f := 22) (args := [.p 0 0, .v (.slice (some ⟨b, o + n / 32 * 32, none⟩) (n - n / 32 * 32) (c - n / 32 * 32))]) (l := []) rfl rfl rfl (by decide) h2 Tryd.func22 rfl rfl rfl (by kernel_rfl) (fun v W' => (⟨g, 65, 16, stm (remS (upsN (n / 32) (newH (lan y)) x) (n - n / 32 * 32) (fun i => x (n / 32 * 32 + i))) zz⟩ : Bl).In W' ∧ Fr [g] W0 W') (key.mono fun e W' hh => ⟨_, hh.1, hh.2⟩) (fun v W1 a3 hR h3 d3 => ?_)
    show Code.wp _ _ _ _ _
    refine hwy_7 g sz hsz _ y x n w W1 a3 hg ?_ hR.1 (F0.comp hR.2 (fun k hk => Or.inr (by simp at hk; subst hk; exact hg))) (sub_ok h3 ⟨by kernel_rfl, by kernel_rfl, trivial⟩) (d3.trans (d2.trans (d1.trans d0)))
    unfold hwS
    rw [if_neg hr, e]
set_option maxHeartbeats 8000000 in
set_option maxRecDepth 100000 in
theorem hwy_2 (g : Nat) (sz : Int) (hsz : sz = 8 ∨ sz = 16 ∨ sz = 32) (y x : Nat → Int) (b o n c : Nat) (A0 : Option Addr) (w W0 : World) (a0 : Act) (hg : w.heap.size ≤ g) (hc : n ≤ c) (hm : n ≤ 9223372036854775807) (hA : 0 < n → A0 = some ⟨b, o, none⟩) (hx : Bts b o n x w) (ox : Oct n x)
    (I0 : (⟨g, 65, 16, stm (newH (lan y)) zz⟩ : Bl).In W0) (F0 : Fr [] w W0) (h0 : Has 234 (fun _ => g) [(0, .v (.int .i64 sz)), (2, .v (.slice A0 n c)), (7, .p 0 0)] a0) (d0 : a0.defers = []) :
    Code.wp Tryd.prog hwy2 (bodyPost Tryd.prog Tryd.f11 fun e w' => ∃ v, e = .returned v ∧ Wrote w (outS sz (hwS y x n)) v w') a0 W0 := by
  refine wp_seq ?_
  refine wp_block ?_
  refine wp_loop (fun a wr => ∃ q A, q * 32 ≤ n ∧ (q * 32 < n → A = some ⟨b, o + q * 32, none⟩) ∧ Has 234 (fun _ => g) [(0, .v (.int .i64 sz)), (2, .v (.slice A (n - q * 32) (c - q * 32))), (7, .p 0 0)] a ∧ a.defers = [] ∧ (⟨g, 65, 16, stm (upsN q (newH (lan y)) x) zz⟩ : Bl).In wr ∧ Fr [] w wr) (fun a _ => lenOf (a.eval (.tmp 2))) ?_ ?_
  · exact ⟨0, A0, by omega, fun h => by simpa using hA (by omega), by simpa using h0, d0, I0, F0⟩
  · rintro a wr ⟨q, A, hq, hA, hH, hd, hI, hF⟩
    refine wp_seq ?_
    refine wp_seq ?_
    refine reg_seq (N := 234) (T := TT) (M := fun _ _ => none) (n := 3) (E2 := [(0, .v (.int .i64 sz)), (2, .v (.slice A (n - q * 32) (c - q * 32))), (7, .p 0 0), (27, .v (.bool (decide (((n - q * 32 : Nat) : Int) ≥ 32))))]) tabOk hH noMem rfl (by kernel_rfl) ⟨by kernel_rfl, by kernel_rfl, by kernel_rfl, by kernel_rfl, trivial⟩ (fun a1 h1 d1 => ?_)
    show Code.wp _ _ _ _ _
    by_cases h32 : 32 ≤ n - q * 32
    · refine wp_cond_true ((h1.2 27 _ rfl).trans (congrArg Value.bool (decide_eq_true (by omega)))) ?_
      refine wp_skip ?_
      show Code.wp _ _ _ _ _
      refine wp_seq ?_
      refine wp_block ?_
      have hA' := hA (by omega)
      subst hA'
      refine wp_region ?_
      refine ops_ (N := 234) (M := fun _ _ => none) (T := TT) (E' := [(31, .v (.slice (some ⟨b, o + q * 32, none⟩) (n - q * 32) (c - q * 32))), (30, .p 0 0), (0, .v (.int .i64 sz)), (2, .v (.slice (some ⟨b, o + q * 32, none⟩) (n - q * 32) (c - q * 32))), (7, .p 0 0)]) tabOk noMem [2] [0, 1] (by kernel_rfl) (sub_ok (E := [(0, .v (.int .i64 sz)), (2, .v (.slice (some ⟨b, o + q * 32, none⟩) (n - q * 32) (c - q * 32))), (7, .p 0 0)]) h1 ⟨by kernel_rfl, by kernel_rfl, by kernel_rfl, trivial⟩) (fun a2 h2 d2 => ?_)
      have key := packet_walk g 65 (upsN q (newH (lan y)) x) zz b (o + q * 32) (n - q * 32) (c - q * 32) (fun i => x (q * 32 + i)) wr hI h32 (by omega) (by omega) ((hx.on hF (by simp)).from (q * 32) (n - q * 32) (by omega)) (ox.from (q * 32) 32 (by omega))
      refine call_ops (N := 234) (i := 2) (d := 32) (f := 21) (args := [.p 0 0, .v (.slice (some ⟨b, o + q * 32, none⟩) (n - q * 32) (c - q * 32))]) (l := []) rfl rfl rfl (by decide) h2 Tryd.func21 rfl rfl rfl (by kernel_rfl) (fun v W' => (⟨g, 65, 16, stm (upsN (q + 1) (newH (lan y)) x) zz⟩ : Bl).In W' ∧ Fr [g] wr W') (key.mono fun e W' hh => ⟨_, hh.1, hh.2⟩) (fun v W1 a3 hR h3 d3 => ?_)
      show Code.wp _ _ _ _ _
      obtain ⟨A', hsl, hA2⟩ := sl_from W1 b (o + q * 32) (n - q * 32) (c - q * 32) 32 h32 (by omega)
      refine wp_region ?_
      refine ops_ (N := 234) (M := fun _ _ => none) (T := TT) (E' := [(28, .v (.slice (some ⟨b, o + q * 32, none⟩) (n - q * 32) (c - q * 32))), (0, .v (.int .i64 sz)), (2, .v (.slice (some ⟨b, o + q * 32, none⟩) (n - q * 32) (c - q * 32))), (7, .p 0 0)]) tabOk noMem [1, 2] [0] (by kernel_rfl) (sub_ok (E := [(0, .v (.int .i64 sz)), (2, .v (.slice (some ⟨b, o + q * 32, none⟩) (n - q * 32) (c - q * 32))), (7, .p 0 0)]) h3 ⟨by kernel_rfl, by kernel_rfl, by kernel_rfl, trivial⟩) (fun a4 h4 d4 => ?_)
      refine given_ops (N := 234) (i := 1) (d := 29) (v := .slice A' (n - q * 32 - 32) (c - q * 32 - 32)) (l := [2]) rfl rfl rfl (by decide) h4 (op_slice rfl (by
        show (Instr.sliceAt _ (a4.eval (.tmp 28)) (some (.int .i64 32)) none none).run _ _ = _
        rw [h4.2 28 _ rfl]
        exact hsl)) (fun a5 h5 d5 => ?_)
      refine given_ops (N := 234) (i := 2) (d := 2) (v := .slice A' (n - q * 32 - 32) (c - q * 32 - 32)) (l := []) rfl rfl rfl (by decide) h5 (op_assign rfl (h5.2 29 _ rfl)) (fun a6 h6 d6 => ?_)
      have h7 := sub_ok (E := [(0, .v (.int .i64 sz)), (2, .v (.slice A' (n - q * 32 - 32) (c - q * 32 - 32))), (7, .p 0 0)]) h6 ⟨by kernel_rfl, by kernel_rfl, by kernel_rfl, trivial⟩
      refine ⟨⟨q + 1, A', by omega, fun h => ?_, ?_, d6.trans (d5.trans (d4.trans (d3.trans (d2.trans (d1.trans hd))))), hR.1, hF.comp hR.2 (fun k hk => Or.inr (by simp at hk; subst hk; exact hg))⟩, ?_⟩
      · rw [hA2 (by omega)]
        congr 2
        omega
      · rw [show n - (q + 1) * 32 = n - q * 32 - 32 by omega, show c - (q + 1) * 32 = c - q * 32 - 32 by omega]
        exact h7
      · rw [has_sub h7 (t := 2) rfl, has_sub hH (t := 2) rfl]
        show n - q * 32 - 32 < n - q * 32
        omega
    · refine wp_cond_false ((h1.2 27 _ rfl).trans (congrArg Value.bool (decide_eq_false (by omega)))) ?_
      refine wp_exit ?_
      refine then_exit (then_exit (exit_in ?_))
      show Code.wp _ _ _ _ _
      obtain rfl : q = n / 32 := by omega
      exact hwy_5 g sz hsz y x b o n c A w wr a1 hg hc hA (fun h => World.block_lt_of_cell? w _ (hx 0 (by omega))) hx ox hI hF (sub_ok h1 ⟨by kernel_rfl, by kernel_rfl, by kernel_rfl, trivial⟩) (d1.trans hd)
set_option maxHeartbeats 8000000 in
set_option maxRecDepth 100000 in
theorem highway_walk (sz : Int) (hsz : sz = 8 ∨ sz = 16 ∨ sz = 32) (kb ko kc : Nat) (y x : Nat → Int) (b o n c : Nat) (A0 : Option Addr) (w : World) (hkc : 32 ≤ kc) (hy : Bts kb ko 32 y w) (oy : Oct 32 y) (hc : n ≤ c) (hm : n ≤ 9223372036854775807) (hA : 0 < n → A0 = some ⟨b, o, none⟩) (hx : Bts b o n x w) (ox : Oct n x) :
    Calls Tryd.prog 11 #[.int .i64 sz, .slice (some ⟨kb, ko, none⟩) 32 kc, .slice A0 n c] w fun e w' => ∃ v, e = .returned v ∧ Wrote w (outS sz (hwS y x n)) v w' := by
  refine calls_of_wp Tryd.func11 rfl ?_
  have h0 := has_three (β := fun _ => 0) (.v (.int .i64 sz)) (.v (.slice (some ⟨kb, ko, none⟩) 32 kc)) (.v (.slice A0 n c)) 231
  refine wp_seq ?_
  refine reg_seq (N := 234) (T := TT) (M := fun _ _ => none) (n := 1) (E2 := [(0, .v (.int .i64 sz)), (1, .v (.slice (some ⟨kb, ko, none⟩) 32 kc)), (2, .v (.slice A0 n c))]) tabOk h0 noMem rfl (by kernel_rfl) ⟨by kernel_rfl, by kernel_rfl, by kernel_rfl, trivial⟩ (fun a1 h1 d1 => ?_)
  show Code.wp _ _ _ _ _
  refine wp_seq ?_
  have hb0 : Below w.heap.size w w.drew := (Below.refl _ _).drew
  refine start_ (S := fun W => Below w.heap.size w W) (ds := []) (n := 14) _ (by kernel_rfl) rfl rfl hb0 (fun hS => ?_)
  clear hb0
  refine segP (S := fun V => Below w.heap.size w V) (T := TT) (M := fun _ _ => none) (N := 234) tabOk (fun _ _ => noMem) (fun _ _ _ _ hd h => And.intro (hd.trans (And.left h)) (And.right h)) hS [0, 2, 5, 8] 10 [(0, .v (.int .i64 sz)), (1, .v (.slice (some ⟨kb, ko, none⟩) 32 kc)), (2, .v (.slice A0 n c)), (12, .v (.slice (some ⟨kb, ko, none⟩) 32 kc)), (14, .v (.slice (some ⟨kb, ko, none⟩) 32 kc)), (17, .v (.slice (some ⟨kb, ko, none⟩) 32 kc)), (20, .v (.slice (some ⟨kb, ko, none⟩) 32 kc))] h1 (by kernel_rfl) (by kernel_rfl) ⟨by kernel_rfl, by kernel_rfl, by kernel_rfl, by kernel_rfl, by kernel_rfl, by kernel_rfl, by kernel_rfl, trivial⟩ (fun a2 h2 d2 => ?_)
  replace d2 := d2.trans d1
  clear h1 d1
  refine segS (S := fun V => Below w.heap.size w V) (N := 234) (i := 3) (d := 15) (b := kb) (o := ko) (n := 32) (c := kc) (lo := 8) (t := 22) tabOk (fun _ _ _ _ hd h => And.intro (hd.trans (And.left h)) (And.right h)) hS h2 (by kernel_rfl) (by kernel_rfl) (by omega) hkc (by kernel_rfl) (fun a3 h3 d3 => ?_)
  replace d3 := d3.trans d2
  clear h2 d2
  replace h3 := sub_ok (E := [(0, .v (.int .i64 sz)), (1, .v (.slice (some ⟨kb, ko, none⟩) 32 kc)), (2, .v (.slice A0 n c)), (12, .v (.slice (some ⟨kb, ko, none⟩) 32 kc)), (14, .v (.slice (some ⟨kb, ko, none⟩) 32 kc)), (15, .v (.slice (some ⟨kb, ko + 8, none⟩) (32 - 8) (kc - 8))), (17, .v (.slice (some ⟨kb, ko, none⟩) 32 kc)), (20, .v (.slice (some ⟨kb, ko, none⟩) 32 kc))]) h3 ⟨by kernel_rfl, by kernel_rfl, by kernel_rfl, by kernel_rfl, by kernel_rfl, by kernel_rfl, by kernel_rfl, by kernel_rfl, trivial⟩
  refine segS (S := fun V => Below w.heap.size w V) (N := 234) (i := 6) (d := 18) (b := kb) (o := ko) (n := 32) (c := kc) (lo := 16) (t := 22) tabOk (fun _ _ _ _ hd h => And.intro (hd.trans (And.left h)) (And.right h)) hS h3 (by kernel_rfl) (by kernel_rfl) (by omega) hkc (by kernel_rfl) (fun a4 h4 d4 => ?_)
  replace d4 := d4.trans d3
  clear h3 d3
  replace h4 := sub_ok (E := [(0, .v (.int .i64 sz)), (1, .v (.slice (some ⟨kb, ko, none⟩) 32 kc)), (2, .v (.slice A0 n c)), (12, .v (.slice (some ⟨kb, ko, none⟩) 32 kc)), (14, .v (.slice (some ⟨kb, ko, none⟩) 32 kc)), (15, .v (.slice (some ⟨kb, ko + 8, none⟩) (32 - 8) (kc - 8))), (17, .v (.slice (some ⟨kb, ko, none⟩) 32 kc)), (18, .v (.slice (some ⟨kb, ko + 16, none⟩) (32 - 16) (kc - 16))), (20, .v (.slice (some ⟨kb, ko, none⟩) 32 kc))]) h4 ⟨by kernel_rfl, by kernel_rfl, by kernel_rfl, by kernel_rfl, by kernel_rfl, by kernel_rfl, by kernel_rfl, by kernel_rfl, by kernel_rfl, trivial⟩
  refine segS (S := fun V => Below w.heap.size w V) (N := 234) (i := 9) (d := 21) (b := kb) (o := ko) (n := 32) (c := kc) (lo := 24) (t := 22) tabOk (fun _ _ _ _ hd h => And.intro (hd.trans (And.left h)) (And.right h)) hS h4 (by kernel_rfl) (by kernel_rfl) (by omega) hkc (by kernel_rfl) (fun a5 h5 d5 => ?_)
  replace d5 := d5.trans d4
  clear h4 d4
  replace h5 := sub_ok (E := [(0, .v (.int .i64 sz)), (1, .v (.slice (some ⟨kb, ko, none⟩) 32 kc)), (2, .v (.slice A0 n c)), (12, .v (.slice (some ⟨kb, ko, none⟩) 32 kc)), (14, .v (.slice (some ⟨kb, ko, none⟩) 32 kc)), (15, .v (.slice (some ⟨kb, ko + 8, none⟩) (32 - 8) (kc - 8))), (17, .v (.slice (some ⟨kb, ko, none⟩) 32 kc)), (18, .v (.slice (some ⟨kb, ko + 16, none⟩) (32 - 16) (kc - 16))), (20, .v (.slice (some ⟨kb, ko, none⟩) 32 kc)), (21, .v (.slice (some ⟨kb, ko + 24, none⟩) (32 - 24) (kc - 24)))]) h5 ⟨by kernel_rfl, by kernel_rfl, by kernel_rfl, by kernel_rfl, by kernel_rfl, by kernel_rfl, by kernel_rfl, by kernel_rfl, by kernel_rfl, by kernel_rfl, trivial⟩
  refine segC (S := fun V => Below w.heap.size w V) (N := 234) (j := 1) (d := 13) (f := 20) (v := .int .u64 (lan y 0)) (args := [.v (.slice (some ⟨kb, ko, none⟩) 32 kc)]) hS h5 (by kernel_rfl) (by kernel_rfl) Tryd.func20 rfl rfl (by
      have e0 : N8 y = lan y 0 := by
        unfold lan
        simp only [Nat.mul_zero, Nat.zero_add]
      have key := hr_walk kb ko 32 kc y _ (by decide) (by decide) hkc (hy.onB hS) (fun i hi => oy i (by omega))
      rw [e0] at key
      exact key.mono fun e W' hh => ⟨hh.1, hS.trans (hh.2.below.mono hS.size)⟩) (fun a6 W6 h6 d6 hS1 => ?_)
  replace hS := hS1
  clear hS1
  replace d6 := d6.trans d5
  clear h5 d5
  replace h6 := sub_ok (E := [(0, .v (.int .i64 sz)), (1, .v (.slice (some ⟨kb, ko, none⟩) 32 kc)), (2, .v (.slice A0 n c)), (12, .v (.slice (some ⟨kb, ko, none⟩) 32 kc)), (13, .v (.int .u64 (lan y 0))), (14, .v (.slice (some ⟨kb, ko, none⟩) 32 kc)), (15, .v (.slice (some ⟨kb, ko + 8, none⟩) (32 - 8) (kc - 8))), (17, .v (.slice (some ⟨kb, ko, none⟩) 32 kc)), (18, .v (.slice (some ⟨kb, ko + 16, none⟩) (32 - 16) (kc - 16))), (20, .v (.slice (some ⟨kb, ko, none⟩) 32 kc)), (21, .v (.slice (some ⟨kb, ko + 24, none⟩) (32 - 24) (kc - 24)))]) h6 ⟨by kernel_rfl, by kernel_rfl, by kernel_rfl, by kernel_rfl, by kernel_rfl, by kernel_rfl, by kernel_rfl, by kernel_rfl, by kernel_rfl, by kernel_rfl, by kernel_rfl, trivial⟩
  refine segC (S := fun V => Below w.heap.size w V) (N := 234) (j := 4) (d := 16) (f := 20) (v := .int .u64 (lan y 1)) (args := [.v (.slice (some ⟨kb, ko + 8, none⟩) (32 - 8) (kc - 8))]) hS h6 (by kernel_rfl) (by kernel_rfl) Tryd.func20 rfl rfl ((hr_walk kb (ko + 8) (32 - 8) (kc - 8) (fun j => y (8 + j)) _ (by decide) (by decide) (by omega) ((hy.onB hS).from 8 (32 - 8) (by decide)) (fun i hi => oy (8 + i) (by omega))).mono fun e W' hh => ⟨hh.1, hS.trans (hh.2.below.mono hS.size)⟩) (fun a7 W7 h7 d7 hS1 => ?_)
  replace hS := hS1
  clear hS1
  replace d7 := d7.trans d6
  clear h6 d6
  replace h7 := sub_ok (E := [(0, .v (.int .i64 sz)), (1, .v (.slice (some ⟨kb, ko, none⟩) 32 kc)), (2, .v (.slice A0 n c)), (12, .v (.slice (some ⟨kb, ko, none⟩) 32 kc)), (13, .v (.int .u64 (lan y 0))), (14, .v (.slice (some ⟨kb, ko, none⟩) 32 kc)), (15, .v (.slice (some ⟨kb, ko + 8, none⟩) (32 - 8) (kc - 8))), (16, .v (.int .u64 (lan y 1))), (17, .v (.slice (some ⟨kb, ko, none⟩) 32 kc)), (18, .v (.slice (some ⟨kb, ko + 16, none⟩) (32 - 16) (kc - 16))), (20, .v (.slice (some ⟨kb, ko, none⟩) 32 kc)), (21, .v (.slice (some ⟨kb, ko + 24, none⟩) (32 - 24) (kc - 24)))]) h7 ⟨by kernel_rfl, by kernel_rfl, by kernel_rfl, by kernel_rfl, by kernel_rfl, by kernel_rfl, by kernel_rfl, by kernel_rfl, by kernel_rfl, by kernel_rfl, by kernel_rfl, by kernel_rfl, trivial⟩
  refine segC (S := fun V => Below w.heap.size w V) (N := 234) (j := 7) (d := 19) (f := 20) (v := .int .u64 (lan y 2)) (args := [.v (.slice (some ⟨kb, ko + 16, none⟩) (32 - 16) (kc - 16))]) hS h7 (by kernel_rfl) (by kernel_rfl) Tryd.func20 rfl rfl ((hr_walk kb (ko + 16) (32 - 16) (kc - 16) (fun j => y (16 + j)) _ (by decide) (by decide) (by omega) ((hy.onB hS).from 16 (32 - 16) (by decide)) (fun i hi => oy (16 + i) (by omega))).mono fun e W' hh => ⟨hh.1, hS.trans (hh.2.below.mono hS.size)⟩) (fun a8 W8 h8 d8 hS1 => ?_)
  replace hS := hS1
  clear hS1
  replace d8 := d8.trans d7
  clear h7 d7
  replace h8 := sub_ok (E := [(0, .v (.int .i64 sz)), (1, .v (.slice (some ⟨kb, ko, none⟩) 32 kc)), (2, .v (.slice A0 n c)), (12, .v (.slice (some ⟨kb, ko, none⟩) 32 kc)), (13, .v (.int .u64 (lan y 0))), (14, .v (.slice (some ⟨kb, ko, none⟩) 32 kc)), (15, .v (.slice (some ⟨kb, ko + 8, none⟩) (32 - 8) (kc - 8))), (16, .v (.int .u64 (lan y 1))), (17, .v (.slice (some ⟨kb, ko, none⟩) 32 kc)), (18, .v (.slice (some ⟨kb, ko + 16, none⟩) (32 - 16) (kc - 16))), (19, .v (.int .u64 (lan y 2))), (20, .v (.slice (some ⟨kb, ko, none⟩) 32 kc)), (21, .v (.slice (some ⟨kb, ko + 24, none⟩) (32 - 24) (kc - 24)))]) h8 ⟨by kernel_rfl, by kernel_rfl, by kernel_rfl, by kernel_rfl, by kernel_rfl, by kernel_rfl, by kernel_rfl, by kernel_rfl, by kernel_rfl, by kernel_rfl, by kernel_rfl, by kernel_rfl, by kernel_rfl, trivial⟩
  refine segC (S := fun V => Below w.heap.size w V) (N := 234) (j := 10) (d := 22) (f := 20) (v := .int .u64 (lan y 3)) (args := [.v (.slice (some ⟨kb, ko + 24, none⟩) (32 - 24) (kc - 24))]) hS h8 (by kernel_rfl) (by kernel_rfl) Tryd.func20 rfl rfl ((hr_walk kb (ko + 24) (32 - 24) (kc - 24) (fun j => y (24 + j)) _ (by decide) (by decide) (by omega) ((hy.onB hS).from 24 (32 - 24) (by decide)) (fun i hi => oy (24 + i) (by omega))).mono fun e W' hh => ⟨hh.1, hS.trans (hh.2.below.mono hS.size)⟩) (fun a9 W9 h9 d9 hS1 => ?_)
  replace hS := hS1
  clear hS1
  replace d9 := d9.trans d8
  clear h8 d8
  replace h9 := sub_ok (E := [(0, .v (.int .i64 sz)), (1, .v (.slice (some ⟨kb, ko, none⟩) 32 kc)), (2, .v (.slice A0 n c)), (12, .v (.slice (some ⟨kb, ko, none⟩) 32 kc)), (13, .v (.int .u64 (lan y 0))), (14, .v (.slice (some ⟨kb, ko, none⟩) 32 kc)), (15, .v (.slice (some ⟨kb, ko + 8, none⟩) (32 - 8) (kc - 8))), (16, .v (.int .u64 (lan y 1))), (17, .v (.slice (some ⟨kb, ko, none⟩) 32 kc)), (18, .v (.slice (some ⟨kb, ko + 16, none⟩) (32 - 16) (kc - 16))), (19, .v (.int .u64 (lan y 2))), (20, .v (.slice (some ⟨kb, ko, none⟩) 32 kc)), (21, .v (.slice (some ⟨kb, ko + 24, none⟩) (32 - 24) (kc - 24))), (22, .v (.int .u64 (lan y 3)))]) h9 ⟨by kernel_rfl, by kernel_rfl, by kernel_rfl, by kernel_rfl, by kernel_rfl, by kernel_rfl, by kernel_rfl, by kernel_rfl, by kernel_rfl, by kernel_rfl, by kernel_rfl, by kernel_rfl, by kernel_rfl, by kernel_rfl, trivial⟩
  refine segB (S := fun V => Below w.heap.size w V) (N := 234) (i := 11) (d := 23) (cs := #[.int .u64 (lan y 0), .int .u64 (lan y 1), .int .u64 (lan y 2), .int .u64 (lan y 3)]) (fun _ _ _ _ hd h => And.intro (hd.trans (And.left h)) (And.right h)) hS h9 (by kernel_rfl) (by kernel_rfl) (fun a10 h10 d10 => ?_)
  replace d10 := d10.trans d9
  clear h9 d9
  replace h10 := sub_ok (E := [(0, .v (.int .i64 sz)), (2, .v (.slice A0 n c)), (23, .v (.agg #[.int .u64 (lan y 0), .int .u64 (lan y 1), .int .u64 (lan y 2), .int .u64 (lan y 3)]))]) h10 ⟨by kernel_rfl, by kernel_rfl, by kernel_rfl, trivial⟩
  refine segR (S := fun V => Below w.heap.size w V) (N := 234) (j := 12) (d := 24) (f := 19) (args := [.v (.agg #[.int .u64 (lan y 0), .int .u64 (lan y 1), .int .u64 (lan y 2), .int .u64 (lan y 3)])]) h10 (by kernel_rfl) (by kernel_rfl) Tryd.func19 rfl rfl (fun v W' => ∃ g, v = .pointer (some ⟨g, 0, none⟩) ∧ w.heap.size ≤ g ∧ (⟨g, 65, 16, stm (newH (lan y)) zz⟩ : Bl).In W') ((new_walk (lan y) _).mono fun e W' hh => ?_) (fun a11 v W11 h11 d11 hR hS1 => ?_)
  · obtain ⟨g, rfl, hg, hI, hF⟩ := hh
    exact ⟨_, rfl, ⟨g, rfl, Nat.le_trans hS.size hg, hI⟩, hS.trans (hF.below _ hS.size (by simp))⟩
  obtain ⟨g, rfl, hg, hI⟩ := hR
  replace d11 := d11.trans d10
  clear h10 d10
  replace h11 := sub_ok (E := [(0, .v (.int .i64 sz)), (2, .v (.slice A0 n c)), (24, .v (.pointer (some ⟨g, 0, none⟩)))]) h11 ⟨by kernel_rfl, by kernel_rfl, by kernel_rfl, trivial⟩
  refine segP (S := fun V => Below w.heap.size w V) (T := TT) (M := fun _ _ => none) (N := 234) tabOk (fun _ _ => noMem) (fun _ _ _ _ hd h => And.intro (hd.trans (And.left h)) (And.right h)) hS1 [13] 0 [(0, .v (.int .i64 sz)), (2, .v (.slice A0 n c)), (7, .v (.pointer (some ⟨g, 0, none⟩)))] h11 (by kernel_rfl) (by kernel_rfl) ⟨by kernel_rfl, by kernel_rfl, by kernel_rfl, trivial⟩ (fun a12 h12 d12 => ?_)
  replace d12 := d12.trans d11
  clear h11 d11
  refine segE (by kernel_rfl) ?_
  show Code.wp _ _ _ _ _
  exact hwy_2 g sz hsz y x b o n c A0 w W11 a12 hg hc hm hA hx ox hI (Fr.ofBelow [] hS1) (has_list h12.1 ⟨h12.2 0 _ rfl, h12.2 2 _ rfl, h12.2 7 _ rfl, trivial⟩) d12
end Go.Proofs.YtnehminojlocoaaDoor.PAll
namespace Go.Proofs.YtnehminojlocoaaDoor.PAll
open Go.RowKit Go.Proofs.YtnehminojlocoaaDoorW.PrintWords Go.Proofs.YtnehminojlocoaaDoorW.PrintLast Go.Proofs.YtnehminojlocoaaDoorW.PrintMore
set_option linter.unusedVariables false
set_option linter.unusedSimpArgs false
/-- A store, in the order of the text. -/
theorem put_ops {P : Program} {ops : Array Oper} {Q : Exit → Act → World → Prop} {N : Nat} {β : Nat → Nat} {T : TypeId → Option Ty} {n k i : Nat} {u vk : Value} {l : List Nat} {B : List Bl} {E : List (Nat × SV)} {a : Act} {w : World} (hT : TabOk P T) (hA : Has N β E a) (hM : Mw β B w) (hst : stV T ops n (some E) = some (k, i, u)) (hvk : bm B k i = some vk)
    (h : ∀ W, Mw β (bput B k i u) W → Fr [β k] w W → wpOps P ops Q l a W) : wpOps P ops Q (n :: l) a w := by
  obtain ⟨rfl, hM⟩ := hM
  obtain ⟨E', o, he, ho, hg, hd, hrun⟩ := stV_ok (P := P) (β := bg B) (N := N) hst
  obtain rfl := Option.some.inj he
  unfold wpOps
  simp only [ho]
  rw [if_pos (want_ hg)]
  refine Or.inl ?_
  unfold Oper.wp
  rw [hrun a w hT hA ⟨_, (hM.at hvk).1⟩ (hM.at hvk).2, Oper.upon_skip, hd]
  exact h _ ⟨bg_put _ _ _ _, Mm.set u hM hvk⟩ ((Fr.refl [bg B k] w).set _ (by simp) u)
/-- A block as a row of the call's own. -/
theorem bl_R {k : IntKind} {b : Bl} {W : World} {base : Nat} {x : Nat → Int} (h : b.In W) (hx : ∀ i, i < b.n → b.m i = .int k (x i)) (hb : base ≤ b.g) (hn : b.n ≤ 140737488355328) : Kd.R (Kd.int k) b.T W base (fun _ => True) (.slice (some ⟨b.g, 0, none⟩) b.n b.n) ((List.range b.n).map x) := by
  obtain ⟨cs, h1, h2, h3⟩ := h
  refine Kd.R_of_own ⟨?_, Or.inr ⟨b.g, b.n, cs, ?_, hb, h1, ?_, ?_, ?_, ?_⟩⟩ (fun _ _ => trivial)
  · simp [encs_length]
  · simp
  · simp
  · show b.n ≤ maxLen
    unfold maxLen
    omega
  · rw [h2, Nat.mul_one]
  · rw [List.length_map, List.length_range, Nat.mul_one, ← h2, ← Array.length_toList, List.take_length]
    apply List.ext_getElem?
    intro i
    rw [Array.getElem?_toList]
    by_cases hi : i < b.n
    · rw [h3 i hi, hx i hi]
      have hi' : i < cs.size := by omega
      simp [encs, List.getElem?_range hi']
    · rw [Array.getElem?_eq_none (by omega)]
      have hi' : (List.range cs.size).length ≤ i := by simp; omega
      simp [encs, List.getElem?_eq_none hi']
def lowL (v : Int) (i : Nat) : Int := IntKind.u8.wrap (v / ((2 ^ (8 * i) : Nat) : Int))
noncomputable def low2 : Code := match Tryd.f17.body with
  | some (.seq _ (.seq _ c)) => c
  | _ => .skip
set_option maxHeartbeats 8000000 in
set_option maxRecDepth 100000 in
theorem low_rest (g : Nat) (v : Int) (w W0 : World) (a0 : Act) (hg : w.heap.size ≤ g) (β : Nat → Nat) (M0 : Mw β [⟨g, 5, 8, (fun _ => .int .u8 0)⟩] W0) (F0 : Fr [] w W0) (h0 : Has 21 β [(0, .v (.int .u64 v)), (3, .s 0 0 8 8)] a0) (d0 : a0.defers = []) :
    Code.wp Tryd.prog low2 (bodyPost Tryd.prog Tryd.f17 fun e w' => ∃ r, e = .returned r ∧ Wrote w ((List.range 8).map (lowL v)) r w') a0 W0 := by
  obtain ⟨rfl, _⟩ := id M0
  refine wp_seq ?_
  refine wp_seq ?_
  refine regM_seq (N := 21) (T := TT) (n := 3) (E2 := [(0, .v (.int .u64 v)), (3, .s 0 0 8 8), (7, .v (.int .i64 8)), (8, .v (.int .i64 0))]) tabOk h0 M0 rfl (by kernel_rfl) ⟨by kernel_rfl, by kernel_rfl, by kernel_rfl, by kernel_rfl, trivial⟩ (fun a1 h1 d1 => ?_)
  show Code.wp _ _ _ _ _
  replace d1 := d1.trans d0
  clear h0 d0
  refine wp_block ?_
  refine wp_loop_rounds 9 ?_
  rw [rounds_succ]
  refine wp_seq ?_
  refine regM_seq (N := 21) (T := TT) (n := 1) (E2 := [(0, .v (.int .u64 v)), (3, .s 0 0 8 8), (7, .v (.int .i64 8)), (8, .v (.int .i64 0)), (9, .v (.bool true))]) tabOk h1 M0 rfl (by kernel_rfl) ⟨by kernel_rfl, by kernel_rfl, by kernel_rfl, by kernel_rfl, by kernel_rfl, trivial⟩ (fun a2 h2 d2 => ?_)
  show Code.wp _ _ _ _ _
  replace d2 := d2.trans d1
  clear h1 d1
  refine wp_seq ?_
  refine wp_cond_true (h2.2 9 _ rfl) ?_
  refine wp_skip ?_
  show Code.wp _ _ _ _ _
  refine wp_seq ?_
  refine wp_block ?_
  refine wp_seq ?_
  refine regM_seq (N := 21) (T := TT) (n := 2) (E2 := [(0, .v (.int .u64 v)), (3, .s 0 0 8 8), (4, .v (.int .i64 0)), (7, .v (.int .i64 8)), (8, .v (.int .i64 0))]) tabOk h2 M0 rfl (by kernel_rfl) ⟨by kernel_rfl, by kernel_rfl, by kernel_rfl, by kernel_rfl, by kernel_rfl, trivial⟩ (fun a3 h3 d3 => ?_)
  show Code.wp _ _ _ _ _
  replace d3 := d3.trans d2
  clear h2 d2
  refine wp_region ?_
  refine ops_ (N := 21) (M := fun _ _ => none) (T := TT) (E' := [(17, .v (.int .u8 (IntKind.u8.wrap (v / 1)))), (16, .v (.int .u64 (v / 1))), (15, .v (.int .i64 0)), (14, .v (.int .i64 0)), (13, .v (.int .u64 v)), (12, .v (.int .i64 0)), (11, .s 0 0 8 8), (0, .v (.int .u64 v)), (3, .s 0 0 8 8), (4, .v (.int .i64 0)), (7, .v (.int .i64 8)), (8, .v (.int .i64 0))]) tabOk noMem [7, 8] [0, 1, 2, 3, 4, 5, 6] (by kernel_rfl) (sub_ok (E := [(0, .v (.int .u64 v)), (3, .s 0 0 8 8), (4, .v (.int .i64 0)), (7, .v (.int .i64 8)), (8, .v (.int .i64 0))]) h3 ⟨by kernel_rfl, by kernel_rfl, by kernel_rfl, by kernel_rfl, by kernel_rfl, trivial⟩) (fun b1 g1 e1 => ?_)
  refine givenS_ops (N := 21) (i := 7) (d := 18) (s := .p 0 0) (l := [8]) rfl rfl rfl (by decide) g1 (op_indexSl (j := 0) (i := 0) rfl (g1.2 11 _ rfl) (g1.2 12 _ rfl) Tryd.underlying22 Tryd.sizeOf5 (by decide)) (fun b2 g2 e2 => ?_)
  refine put_ops (N := 21) (n := 8) (k := 0) (i := 0) (u := .int .u8 (IntKind.u8.wrap (v / 1))) (l := []) tabOk g2 M0 (by kernel_rfl) rfl (fun W4 M4 G4 => ?_)
  have h4 := sub_ok (E := [(0, .v (.int .u64 v)), (3, .s 0 0 8 8), (7, .v (.int .i64 8)), (8, .v (.int .i64 0))]) g2 ⟨by kernel_rfl, by kernel_rfl, by kernel_rfl, by kernel_rfl, trivial⟩
  have d4 := e2.trans (e1.trans d3)
  replace M4 : Mw (bg [⟨g, 5, 8, (fun _ => .int .u8 0)⟩]) [⟨g, 5, 8, (upm (fun _ => .int .u8 0) 0 (.int .u8 (IntKind.u8.wrap (v / 1))))⟩] W4 := M4
  have F4 := Fr.comp F0 G4 (fun x hx => Or.inr (by simp at hx; subst hx; exact hg))
  clear g1 g2 e1 e2 h3 d3 M0 F0 G4
  show Code.wp _ _ _ _ _
  refine regM_seq (N := 21) (T := TT) (n := 2) (E2 := [(0, .v (.int .u64 v)), (3, .s 0 0 8 8), (7, .v (.int .i64 8)), (8, .v (.int .i64 1))]) tabOk h4 M4 rfl (by kernel_rfl) ⟨by kernel_rfl, by kernel_rfl, by kernel_rfl, by kernel_rfl, trivial⟩ (fun a5 h5 d5 => ?_)
  replace d5 := d5.trans d4
  clear h4 d4
  show Code.rounds _ _ _ _ _ _
  rw [rounds_succ]
  refine wp_seq ?_
  refine regM_seq (N := 21) (T := TT) (n := 1) (E2 := [(0, .v (.int .u64 v)), (3, .s 0 0 8 8), (7, .v (.int .i64 8)), (8, .v (.int .i64 1)), (9, .v (.bool true))]) tabOk h5 M4 rfl (by kernel_rfl) ⟨by kernel_rfl, by kernel_rfl, by kernel_rfl, by kernel_rfl, by kernel_rfl, trivial⟩ (fun a6 h6 d6 => ?_)
  show Code.wp _ _ _ _ _
  replace d6 := d6.trans d5
  clear h5 d5
  refine wp_seq ?_
  refine wp_cond_true (h6.2 9 _ rfl) ?_
  refine wp_skip ?_
  show Code.wp _ _ _ _ _
  refine wp_seq ?_
  refine wp_block ?_
  refine wp_seq ?_
  refine regM_seq (N := 21) (T := TT) (n := 2) (E2 := [(0, .v (.int .u64 v)), (3, .s 0 0 8 8), (4, .v (.int .i64 1)), (7, .v (.int .i64 8)), (8, .v (.int .i64 1))]) tabOk h6 M4 rfl (by kernel_rfl) ⟨by kernel_rfl, by kernel_rfl, by kernel_rfl, by kernel_rfl, by kernel_rfl, trivial⟩ (fun a7 h7 d7 => ?_)
  show Code.wp _ _ _ _ _
  replace d7 := d7.trans d6
  clear h6 d6
  refine wp_region ?_
  refine ops_ (N := 21) (M := fun _ _ => none) (T := TT) (E' := [(17, .v (.int .u8 (IntKind.u8.wrap (v / 256)))), (16, .v (.int .u64 (v / 256))), (15, .v (.int .i64 8)), (14, .v (.int .i64 1)), (13, .v (.int .u64 v)), (12, .v (.int .i64 1)), (11, .s 0 0 8 8), (0, .v (.int .u64 v)), (3, .s 0 0 8 8), (4, .v (.int .i64 1)), (7, .v (.int .i64 8)), (8, .v (.int .i64 1))]) tabOk noMem [7, 8] [0, 1, 2, 3, 4, 5, 6] (by kernel_rfl) (sub_ok (E := [(0, .v (.int .u64 v)), (3, .s 0 0 8 8), (4, .v (.int .i64 1)), (7, .v (.int .i64 8)), (8, .v (.int .i64 1))]) h7 ⟨by kernel_rfl, by kernel_rfl, by kernel_rfl, by kernel_rfl, by kernel_rfl, trivial⟩) (fun b1 g1 e1 => ?_)
  refine givenS_ops (N := 21) (i := 7) (d := 18) (s := .p 0 1) (l := [8]) rfl rfl rfl (by decide) g1 (op_indexSl (j := 1) (i := 0) rfl (g1.2 11 _ rfl) (g1.2 12 _ rfl) Tryd.underlying22 Tryd.sizeOf5 (by decide)) (fun b2 g2 e2 => ?_)
  refine put_ops (N := 21) (n := 8) (k := 0) (i := 1) (u := .int .u8 (IntKind.u8.wrap (v / 256))) (l := []) tabOk g2 M4 (by kernel_rfl) rfl (fun W8 M8 G8 => ?_)
  have h8 := sub_ok (E := [(0, .v (.int .u64 v)), (3, .s 0 0 8 8), (7, .v (.int .i64 8)), (8, .v (.int .i64 1))]) g2 ⟨by kernel_rfl, by kernel_rfl, by kernel_rfl, by kernel_rfl, trivial⟩
  have d8 := e2.trans (e1.trans d7)
  replace M8 : Mw (bg [⟨g, 5, 8, (fun _ => .int .u8 0)⟩]) [⟨g, 5, 8, (upm (upm (fun _ => .int .u8 0) 0 (.int .u8 (IntKind.u8.wrap (v / 1)))) 1 (.int .u8 (IntKind.u8.wrap (v / 256))))⟩] W8 := M8
  have F8 := Fr.comp F4 G8 (fun x hx => Or.inr (by simp at hx; subst hx; exact hg))
  clear g1 g2 e1 e2 h7 d7 M4 F4 G8
  show Code.wp _ _ _ _ _
  refine regM_seq (N := 21) (T := TT) (n := 2) (E2 := [(0, .v (.int .u64 v)), (3, .s 0 0 8 8), (7, .v (.int .i64 8)), (8, .v (.int .i64 2))]) tabOk h8 M8 rfl (by kernel_rfl) ⟨by kernel_rfl, by kernel_rfl, by kernel_rfl, by kernel_rfl, trivial⟩ (fun a9 h9 d9 => ?_)
  replace d9 := d9.trans d8
  clear h8 d8
  show Code.rounds _ _ _ _ _ _
  rw [rounds_succ]
  refine wp_seq ?_
  refine regM_seq (N := 21) (T := TT) (n := 1) (E2 := [(0, .v (.int .u64 v)), (3, .s 0 0 8 8), (7, .v (.int .i64 8)), (8, .v (.int .i64 2)), (9, .v (.bool true))]) tabOk h9 M8 rfl (by kernel_rfl) ⟨by kernel_rfl, by kernel_rfl, by kernel_rfl, by kernel_rfl, by kernel_rfl, trivial⟩ (fun a10 h10 d10 => ?_)
  show Code.wp _ _ _ _ _
  replace d10 := d10.trans d9
  clear h9 d9
  refine wp_seq ?_
  refine wp_cond_true (h10.2 9 _ rfl) ?_
  refine wp_skip ?_
  show Code.wp _ _ _ _ _
  refine wp_seq ?_
  refine wp_block ?_
  refine wp_seq ?_
  refine regM_seq (N := 21) (T := TT) (n := 2) (E2 := [(0, .v (.int .u64 v)), (3, .s 0 0 8 8), (4, .v (.int .i64 2)), (7, .v (.int .i64 8)), (8, .v (.int .i64 2))]) tabOk h10 M8 rfl (by kernel_rfl) ⟨by kernel_rfl, by kernel_rfl, by kernel_rfl, by kernel_rfl, by kernel_rfl, trivial⟩ (fun a11 h11 d11 => ?_)
  show Code.wp _ _ _ _ _
  replace d11 := d11.trans d10
  clear h10 d10
  refine wp_region ?_
  refine ops_ (N := 21) (M := fun _ _ => none) (T := TT) (E' := [(17, .v (.int .u8 (IntKind.u8.wrap (v / 65536)))), (16, .v (.int .u64 (v / 65536))), (15, .v (.int .i64 16)), (14, .v (.int .i64 2)), (13, .v (.int .u64 v)), (12, .v (.int .i64 2)), (11, .s 0 0 8 8), (0, .v (.int .u64 v)), (3, .s 0 0 8 8), (4, .v (.int .i64 2)), (7, .v (.int .i64 8)), (8, .v (.int .i64 2))]) tabOk noMem [7, 8] [0, 1, 2, 3, 4, 5, 6] (by kernel_rfl) (sub_ok (E := [(0, .v (.int .u64 v)), (3, .s 0 0 8 8), (4, .v (.int .i64 2)), (7, .v (.int .i64 8)), (8, .v (.int .i64 2))]) h11 ⟨by kernel_rfl, by kernel_rfl, by kernel_rfl, by kernel_rfl, by kernel_rfl, trivial⟩) (fun b1 g1 e1 => ?_)
  refine givenS_ops (N := 21) (i := 7) (d := 18) (s := .p 0 2) (l := [8]) rfl rfl rfl (by decide) g1 (op_indexSl (j := 2) (i := 0) rfl (g1.2 11 _ rfl) (g1.2 12 _ rfl) Tryd.underlying22 Tryd.sizeOf5 (by decide)) (fun b2 g2 e2 => ?_)
  refine put_ops (N := 21) (n := 8) (k := 0) (i := 2) (u := .int .u8 (IntKind.u8.wrap (v / 65536))) (l := []) tabOk g2 M8 (by kernel_rfl) rfl (fun W12 M12 G12 => ?_)
  have h12 := sub_ok (E := [(0, .v (.int .u64 v)), (3, .s 0 0 8 8), (7, .v (.int .i64 8)), (8, .v (.int .i64 2))]) g2 ⟨by kernel_rfl, by kernel_rfl, by kernel_rfl, by kernel_rfl, trivial⟩
  have d12 := e2.trans (e1.trans d11)
  replace M12 : Mw (bg [⟨g, 5, 8, (fun _ => .int .u8 0)⟩]) [⟨g, 5, 8, (upm (upm (upm (fun _ => .int .u8 0) 0 (.int .u8 (IntKind.u8.wrap (v / 1)))) 1 (.int .u8 (IntKind.u8.wrap (v / 256)))) 2 (.int .u8 (IntKind.u8.wrap (v / 65536))))⟩] W12 := M12
  have F12 := Fr.comp F8 G12 (fun x hx => Or.inr (by simp at hx; subst hx; exact hg))
  clear g1 g2 e1 e2 h11 d11 M8 F8 G12
  show Code.wp _ _ _ _ _
  refine regM_seq (N := 21) (T := TT) (n := 2) (E2 := [(0, .v (.int .u64 v)), (3, .s 0 0 8 8), (7, .v (.int .i64 8)), (8, .v (.int .i64 3))]) tabOk h12 M12 rfl (by kernel_rfl) ⟨by kernel_rfl, by kernel_rfl, by kernel_rfl, by kernel_rfl, trivial⟩ (fun a13 h13 d13 => ?_)
  replace d13 := d13.trans d12
  clear h12 d12
  show Code.rounds _ _ _ _ _ _
  rw [rounds_succ]
  refine wp_seq ?_
  refine regM_seq (N := 21) (T := TT) (n := 1) (E2 := [(0, .v (.int .u64 v)), (3, .s 0 0 8 8), (7, .v (.int .i64 8)), (8, .v (.int .i64 3)), (9, .v (.bool true))]) tabOk h13 M12 rfl (by kernel_rfl) ⟨by kernel_rfl, by kernel_rfl, by kernel_rfl, by kernel_rfl, by kernel_rfl, trivial⟩ (fun a14 h14 d14 => ?_)
  show Code.wp _ _ _ _ _
  replace d14 := d14.trans d13
  clear h13 d13
  refine wp_seq ?_
  refine wp_cond_true (h14.2 9 _ rfl) ?_
  refine wp_skip ?_
  show Code.wp _ _ _ _ _
  refine wp_seq ?_
  refine wp_block ?_
  refine wp_seq ?_
  refine regM_seq (N := 21) (T := TT) (n := 2) (E2 := [(0, .v (.int .u64 v)), (3, .s 0 0 8 8), (4, .v (.int .i64 3)), (7, .v (.int .i64 8)), (8, .v (.int .i64 3))]) tabOk h14 M12 rfl (by kernel_rfl) ⟨by kernel_rfl, by kernel_rfl, by kernel_rfl, by kernel_rfl, by kernel_rfl, trivial⟩ (fun a15 h15 d15 => ?_)
  show Code.wp _ _ _ _ _
  replace d15 := d15.trans d14
  clear h14 d14
  refine wp_region ?_
  refine ops_ (N := 21) (M := fun _ _ => none) (T := TT) (E' := [(17, .v (.int .u8 (IntKind.u8.wrap (v / 16777216)))), (16, .v (.int .u64 (v / 16777216))), (15, .v (.int .i64 24)), (14, .v (.int .i64 3)), (13, .v (.int .u64 v)), (12, .v (.int .i64 3)), (11, .s 0 0 8 8), (0, .v (.int .u64 v)), (3, .s 0 0 8 8), (4, .v (.int .i64 3)), (7, .v (.int .i64 8)), (8, .v (.int .i64 3))]) tabOk noMem [7, 8] [0, 1, 2, 3, 4, 5, 6] (by kernel_rfl) (sub_ok (E := [(0, .v (.int .u64 v)), (3, .s 0 0 8 8), (4, .v (.int .i64 3)), (7, .v (.int .i64 8)), (8, .v (.int .i64 3))]) h15 ⟨by kernel_rfl, by kernel_rfl, by kernel_rfl, by kernel_rfl, by kernel_rfl, trivial⟩) (fun b1 g1 e1 => ?_)
  refine givenS_ops (N := 21) (i := 7) (d := 18) (s := .p 0 3) (l := [8]) rfl rfl rfl (by decide) g1 (op_indexSl (j := 3) (i := 0) rfl (g1.2 11 _ rfl) (g1.2 12 _ rfl) Tryd.underlying22 Tryd.sizeOf5 (by decide)) (fun b2 g2 e2 => ?_)
  refine put_ops (N := 21) (n := 8) (k := 0) (i := 3) (u := .int .u8 (IntKind.u8.wrap (v / 16777216))) (l := []) tabOk g2 M12 (by kernel_rfl) rfl (fun W16 M16 G16 => ?_)
  have h16 := sub_ok (E := [(0, .v (.int .u64 v)), (3, .s 0 0 8 8), (7, .v (.int .i64 8)), (8, .v (.int .i64 3))]) g2 ⟨by kernel_rfl, by kernel_rfl, by kernel_rfl, by kernel_rfl, trivial⟩
  have d16 := e2.trans (e1.trans d15)
  replace M16 : Mw (bg [⟨g, 5, 8, (fun _ => .int .u8 0)⟩]) [⟨g, 5, 8, (upm (upm (upm (upm (fun _ => .int .u8 0) 0 (.int .u8 (IntKind.u8.wrap (v / 1)))) 1 (.int .u8 (IntKind.u8.wrap (v / 256)))) 2 (.int .u8 (IntKind.u8.wrap (v / 65536)))) 3 (.int .u8 (IntKind.u8.wrap (v / 16777216))))⟩] W16 := M16
  have F16 := Fr.comp F12 G16 (fun x hx => Or.inr (by simp at hx; subst hx; exact hg))
  clear g1 g2 e1 e2 h15 d15 M12 F12 G16
  show Code.wp _ _ _ _ _
  refine regM_seq (N := 21) (T := TT) (n := 2) (E2 := [(0, .v (.int .u64 v)), (3, .s 0 0 8 8), (7, .v (.int .i64 8)), (8, .v (.int .i64 4))]) tabOk h16 M16 rfl (by kernel_rfl) ⟨by kernel_rfl, by kernel_rfl, by kernel_rfl, by kernel_rfl, trivial⟩ (fun a17 h17 d17 => ?_)
  replace d17 := d17.trans d16
  clear h16 d16
  show Code.rounds _ _ _ _ _ _
  rw [rounds_succ]
  refine wp_seq ?_
  refine regM_seq (N := 21) (T := TT) (n := 1) (E2 := [(0, .v (.int .u64 v)), (3, .s 0 0 8 8), (7, .v (.int .i64 8)), (8, .v (.int .i64 4)), (9, .v (.bool true))]) tabOk h17 M16 rfl (by kernel_rfl) ⟨by kernel_rfl, by kernel_rfl, by kernel_rfl, by kernel_rfl, by kernel_rfl, trivial⟩ (fun a18 h18 d18 => ?_)
  show Code.wp _ _ _ _ _
  replace d18 := d18.trans d17
  clear h17 d17
  refine wp_seq ?_
  refine wp_cond_true (h18.2 9 _ rfl) ?_
  refine wp_skip ?_
  show Code.wp _ _ _ _ _
  refine wp_seq ?_
  refine wp_block ?_
  refine wp_seq ?_
  refine regM_seq (N := 21) (T := TT) (n := 2) (E2 := [(0, .v (.int .u64 v)), (3, .s 0 0 8 8), (4, .v (.int .i64 4)), (7, .v (.int .i64 8)), (8, .v (.int .i64 4))]) tabOk h18 M16 rfl (by kernel_rfl) ⟨by kernel_rfl, by kernel_rfl, by kernel_rfl, by kernel_rfl, by kernel_rfl, trivial⟩ (fun a19 h19 d19 => ?_)
  show Code.wp _ _ _ _ _
  replace d19 := d19.trans d18
  clear h18 d18
  refine wp_region ?_
  refine ops_ (N := 21) (M := fun _ _ => none) (T := TT) (E' := [(17, .v (.int .u8 (IntKind.u8.wrap (v / 4294967296)))), (16, .v (.int .u64 (v / 4294967296))), (15, .v (.int .i64 32)), (14, .v (.int .i64 4)), (13, .v (.int .u64 v)), (12, .v (.int .i64 4)), (11, .s 0 0 8 8), (0, .v (.int .u64 v)), (3, .s 0 0 8 8), (4, .v (.int .i64 4)), (7, .v (.int .i64 8)), (8, .v (.int .i64 4))]) tabOk noMem [7, 8] [0, 1, 2, 3, 4, 5, 6] (by kernel_rfl) (sub_ok (E := [(0, .v (.int .u64 v)), (3, .s 0 0 8 8), (4, .v (.int .i64 4)), (7, .v (.int .i64 8)), (8, .v (.int .i64 4))]) h19 ⟨by kernel_rfl, by kernel_rfl, by kernel_rfl, by kernel_rfl, by kernel_rfl, trivial⟩) (fun b1 g1 e1 => ?_)
  refine givenS_ops (N := 21) (i := 7) (d := 18) (s := .p 0 4) (l := [8]) rfl rfl rfl (by decide) g1 (op_indexSl (j := 4) (i := 0) rfl (g1.2 11 _ rfl) (g1.2 12 _ rfl) Tryd.underlying22 Tryd.sizeOf5 (by decide)) (fun b2 g2 e2 => ?_)
  refine put_ops (N := 21) (n := 8) (k := 0) (i := 4) (u := .int .u8 (IntKind.u8.wrap (v / 4294967296))) (l := []) tabOk g2 M16 (by kernel_rfl) rfl (fun W20 M20 G20 => ?_)
  have h20 := sub_ok (E := [(0, .v (.int .u64 v)), (3, .s 0 0 8 8), (7, .v (.int .i64 8)), (8, .v (.int .i64 4))]) g2 ⟨by kernel_rfl, by kernel_rfl, by kernel_rfl, by kernel_rfl, trivial⟩
  have d20 := e2.trans (e1.trans d19)
  replace M20 : Mw (bg [⟨g, 5, 8, (fun _ => .int .u8 0)⟩]) [⟨g, 5, 8, (upm (upm (upm (upm (upm (fun _ => .int .u8 0) 0 (.int .u8 (IntKind.u8.wrap (v / 1)))) 1 (.int .u8 (IntKind.u8.wrap (v / 256)))) 2 (.int .u8 (IntKind.u8.wrap (v / 65536)))) 3 (.int .u8 (IntKind.u8.wrap (v / 16777216)))) 4 (.int .u8 (IntKind.u8.wrap (v / 4294967296))))⟩] W20 := M20
  have F20 := Fr.comp F16 G20 (fun x hx => Or.inr (by simp at hx; subst hx; exact hg))
  clear g1 g2 e1 e2 h19 d19 M16 F16 G20
  show Code.wp _ _ _ _ _
  refine regM_seq (N := 21) (T := TT) (n := 2) (E2 := [(0, .v (.int .u64 v)), (3, .s 0 0 8 8), (7, .v (.int .i64 8)), (8, .v (.int .i64 5))]) tabOk h20 M20 rfl (by kernel_rfl) ⟨by kernel_rfl, by kernel_rfl, by kernel_rfl, by kernel_rfl, trivial⟩ (fun a21 h21 d21 => ?_)
  replace d21 := d21.trans d20
  clear h20 d20
  show Code.rounds _ _ _ _ _ _
  rw [rounds_succ]
  refine wp_seq ?_
  refine regM_seq (N := 21) (T := TT) (n := 1) (E2 := [(0, .v (.int .u64 v)), (3, .s 0 0 8 8), (7, .v (.int .i64 8)), (8, .v (.int .i64 5)), (9, .v (.bool true))]) tabOk h21 M20 rfl (by kernel_rfl) ⟨by kernel_rfl, by kernel_rfl, by kernel_rfl, by kernel_rfl, by kernel_rfl, trivial⟩ (fun a22 h22 d22 => ?_)
  show Code.wp _ _ _ _ _
  replace d22 := d22.trans d21
  clear h21 d21
  refine wp_seq ?_
  refine wp_cond_true (h22.2 9 _ rfl) ?_
  refine wp_skip ?_
  show Code.wp _ _ _ _ _
  refine wp_seq ?_
  refine wp_block ?_
  refine wp_seq ?_
  refine regM_seq (N := 21) (T := TT) (n := 2) (E2 := [(0, .v (.int .u64 v)), (3, .s 0 0 8 8), (4, .v (.int .i64 5)), (7, .v (.int .i64 8)), (8, .v (.int .i64 5))]) tabOk h22 M20 rfl (by kernel_rfl) ⟨by kernel_rfl, by kernel_rfl, by kernel_rfl, by kernel_rfl, by kernel_rfl, trivial⟩ (fun a23 h23 d23 => ?_)
  show Code.wp _ _ _ _ _
  replace d23 := d23.trans d22
  clear h22 d22
  refine wp_region ?_
  refine ops_ (N := 21) (M := fun _ _ => none) (T := TT) (E' := [(17, .v (.int .u8 (IntKind.u8.wrap (v / 1099511627776)))), (16, .v (.int .u64 (v / 1099511627776))), (15, .v (.int .i64 40)), (14, .v (.int .i64 5)), (13, .v (.int .u64 v)), (12, .v (.int .i64 5)), (11, .s 0 0 8 8), (0, .v (.int .u64 v)), (3, .s 0 0 8 8), (4, .v (.int .i64 5)), (7, .v (.int .i64 8)), (8, .v (.int .i64 5))]) tabOk noMem [7, 8] [0, 1, 2, 3, 4, 5, 6] (by kernel_rfl) (sub_ok (E := [(0, .v (.int .u64 v)), (3, .s 0 0 8 8), (4, .v (.int .i64 5)), (7, .v (.int .i64 8)), (8, .v (.int .i64 5))]) h23 ⟨by kernel_rfl, by kernel_rfl, by kernel_rfl, by kernel_rfl, by kernel_rfl, trivial⟩) (fun b1 g1 e1 => ?_)
  refine givenS_ops (N := 21) (i := 7) (d := 18) (s := .p 0 5) (l := [8]) rfl rfl rfl (by decide) g1 (op_indexSl (j := 5) (i := 0) rfl (g1.2 11 _ rfl) (g1.2 12 _ rfl) Tryd.underlying22 Tryd.sizeOf5 (by decide)) (fun b2 g2 e2 => ?_)
  refine put_ops (N := 21) (n := 8) (k := 0) (i := 5) (u := .int .u8 (IntKind.u8.wrap (v / 1099511627776))) (l := []) tabOk g2 M20 (by kernel_rfl) rfl (fun W24 M24 G24 => ?_)
  have h24 := sub_ok (E := [(0, .v (.int .u64 v)), (3, .s 0 0 8 8), (7, .v (.int .i64 8)), (8, .v (.int .i64 5))]) g2 ⟨by kernel_rfl, by kernel_rfl, by kernel_rfl, by kernel_rfl, trivial⟩
  have d24 := e2.trans (e1.trans d23)
  replace M24 : Mw (bg [⟨g, 5, 8, (fun _ => .int .u8 0)⟩]) [⟨g, 5, 8, (upm (upm (upm (upm (upm (upm (fun _ => .int .u8 0) 0 (.int .u8 (IntKind.u8.wrap (v / 1)))) 1 (.int .u8 (IntKind.u8.wrap (v / 256)))) 2 (.int .u8 (IntKind.u8.wrap (v / 65536)))) 3 (.int .u8 (IntKind.u8.wrap (v / 16777216)))) 4 (.int .u8 (IntKind.u8.wrap (v / 4294967296)))) 5 (.int .u8 (IntKind.u8.wrap (v / 1099511627776))))⟩] W24 := M24
  have F24 := Fr.comp F20 G24 (fun x hx => Or.inr (by simp at hx; subst hx; exact hg))
  clear g1 g2 e1 e2 h23 d23 M20 F20 G24
  show Code.wp _ _ _ _ _
  refine regM_seq (N := 21) (T := TT) (n := 2) (E2 := [(0, .v (.int .u64 v)), (3, .s 0 0 8 8), (7, .v (.int .i64 8)), (8, .v (.int .i64 6))]) tabOk h24 M24 rfl (by kernel_rfl) ⟨by kernel_rfl, by kernel_rfl, by kernel_rfl, by kernel_rfl, trivial⟩ (fun a25 h25 d25 => ?_)
  replace d25 := d25.trans d24
  clear h24 d24
  show Code.rounds _ _ _ _ _ _
  rw [rounds_succ]
  refine wp_seq ?_
  refine regM_seq (N := 21) (T := TT) (n := 1) (E2 := [(0, .v (.int .u64 v)), (3, .s 0 0 8 8), (7, .v (.int .i64 8)), (8, .v (.int .i64 6)), (9, .v (.bool true))]) tabOk h25 M24 rfl (by kernel_rfl) ⟨by kernel_rfl, by kernel_rfl, by kernel_rfl, by kernel_rfl, by kernel_rfl, trivial⟩ (fun a26 h26 d26 => ?_)
  show Code.wp _ _ _ _ _
  replace d26 := d26.trans d25
  clear h25 d25
  refine wp_seq ?_
  refine wp_cond_true (h26.2 9 _ rfl) ?_
  refine wp_skip ?_
  show Code.wp _ _ _ _ _
  refine wp_seq ?_
  refine wp_block ?_
  refine wp_seq ?_
  refine regM_seq (N := 21) (T := TT) (n := 2) (E2 := [(0, .v (.int .u64 v)), (3, .s 0 0 8 8), (4, .v (.int .i64 6)), (7, .v (.int .i64 8)), (8, .v (.int .i64 6))]) tabOk h26 M24 rfl (by kernel_rfl) ⟨by kernel_rfl, by kernel_rfl, by kernel_rfl, by kernel_rfl, by kernel_rfl, trivial⟩ (fun a27 h27 d27 => ?_)
  show Code.wp _ _ _ _ _
  replace d27 := d27.trans d26
  clear h26 d26
  refine wp_region ?_
  refine ops_ (N := 21) (M := fun _ _ => none) (T := TT) (E' := [(17, .v (.int .u8 (IntKind.u8.wrap (v / 281474976710656)))), (16, .v (.int .u64 (v / 281474976710656))), (15, .v (.int .i64 48)), (14, .v (.int .i64 6)), (13, .v (.int .u64 v)), (12, .v (.int .i64 6)), (11, .s 0 0 8 8), (0, .v (.int .u64 v)), (3, .s 0 0 8 8), (4, .v (.int .i64 6)), (7, .v (.int .i64 8)), (8, .v (.int .i64 6))]) tabOk noMem [7, 8] [0, 1, 2, 3, 4, 5, 6] (by kernel_rfl) (sub_ok (E := [(0, .v (.int .u64 v)), (3, .s 0 0 8 8), (4, .v (.int .i64 6)), (7, .v (.int .i64 8)), (8, .v (.int .i64 6))]) h27 ⟨by kernel_rfl, by kernel_rfl, by kernel_rfl, by kernel_rfl, by kernel_rfl, trivial⟩) (fun b1 g1 e1 => ?_)
  refine givenS_ops (N := 21) (i := 7) (d := 18) (s := .p 0 6) (l := [8]) rfl rfl rfl (by decide) g1 (op_indexSl (j := 6) (i := 0) rfl (g1.2 11 _ rfl) (g1.2 12 _ rfl) Tryd.underlying22 Tryd.sizeOf5 (by decide)) (fun b2 g2 e2 => ?_)
  refine put_ops (N := 21) (n := 8) (k := 0) (i := 6) (u := .int .u8 (IntKind.u8.wrap (v / 281474976710656))) (l := []) tabOk g2 M24 (by kernel_rfl) rfl (fun W28 M28 G28 => ?_)
  have h28 := sub_ok (E := [(0, .v (.int .u64 v)), (3, .s 0 0 8 8), (7, .v (.int .i64 8)), (8, .v (.int .i64 6))]) g2 ⟨by kernel_rfl, by kernel_rfl, by kernel_rfl, by kernel_rfl, trivial⟩
  have d28 := e2.trans (e1.trans d27)
  replace M28 : Mw (bg [⟨g, 5, 8, (fun _ => .int .u8 0)⟩]) [⟨g, 5, 8, (upm (upm (upm (upm (upm (upm (upm (fun _ => .int .u8 0) 0 (.int .u8 (IntKind.u8.wrap (v / 1)))) 1 (.int .u8 (IntKind.u8.wrap (v / 256)))) 2 (.int .u8 (IntKind.u8.wrap (v / 65536)))) 3 (.int .u8 (IntKind.u8.wrap (v / 16777216)))) 4 (.int .u8 (IntKind.u8.wrap (v / 4294967296)))) 5 (.int .u8 (IntKind.u8.wrap (v / 1099511627776)))) 6 (.int .u8 (IntKind.u8.wrap (v / 281474976710656))))⟩] W28 := M28
  have F28 := Fr.comp F24 G28 (fun x hx => Or.inr (by simp at hx; subst hx; exact hg))
  clear g1 g2 e1 e2 h27 d27 M24 F24 G28
  show Code.wp _ _ _ _ _
  refine regM_seq (N := 21) (T := TT) (n := 2) (E2 := [(0, .v (.int .u64 v)), (3, .s 0 0 8 8), (7, .v (.int .i64 8)), (8, .v (.int .i64 7))]) tabOk h28 M28 rfl (by kernel_rfl) ⟨by kernel_rfl, by kernel_rfl, by kernel_rfl, by kernel_rfl, trivial⟩ (fun a29 h29 d29 => ?_)
  replace d29 := d29.trans d28
  clear h28 d28
  show Code.rounds _ _ _ _ _ _
  rw [rounds_succ]
  refine wp_seq ?_
  refine regM_seq (N := 21) (T := TT) (n := 1) (E2 := [(0, .v (.int .u64 v)), (3, .s 0 0 8 8), (7, .v (.int .i64 8)), (8, .v (.int .i64 7)), (9, .v (.bool true))]) tabOk h29 M28 rfl (by kernel_rfl) ⟨by kernel_rfl, by kernel_rfl, by kernel_rfl, by kernel_rfl, by kernel_rfl, trivial⟩ (fun a30 h30 d30 => ?_)
  show Code.wp _ _ _ _ _
  replace d30 := d30.trans d29
  clear h29 d29
  refine wp_seq ?_
  refine wp_cond_true (h30.2 9 _ rfl) ?_
  refine wp_skip ?_
  show Code.wp _ _ _ _ _
  refine wp_seq ?_
  refine wp_block ?_
  refine wp_seq ?_
  refine regM_seq (N := 21) (T := TT) (n := 2) (E2 := [(0, .v (.int .u64 v)), (3, .s 0 0 8 8), (4, .v (.int .i64 7)), (7, .v (.int .i64 8)), (8, .v (.int .i64 7))]) tabOk h30 M28 rfl (by kernel_rfl) ⟨by kernel_rfl, by kernel_rfl, by kernel_rfl, by kernel_rfl, by kernel_rfl, trivial⟩ (fun a31 h31 d31 => ?_)
  show Code.wp _ _ _ _ _
  replace d31 := d31.trans d30
  clear h30 d30
  refine wp_region ?_
  refine ops_ (N := 21) (M := fun _ _ => none) (T := TT) (E' := [(17, .v (.int .u8 (IntKind.u8.wrap (v / 72057594037927936)))), (16, .v (.int .u64 (v / 72057594037927936))), (15, .v (.int .i64 56)), (14, .v (.int .i64 7)), (13, .v (.int .u64 v)), (12, .v (.int .i64 7)), (11, .s 0 0 8 8), (0, .v (.int .u64 v)), (3, .s 0 0 8 8), (4, .v (.int .i64 7)), (7, .v (.int .i64 8)), (8, .v (.int .i64 7))]) tabOk noMem [7, 8] [0, 1, 2, 3, 4, 5, 6] (by kernel_rfl) (sub_ok (E := [(0, .v (.int .u64 v)), (3, .s 0 0 8 8), (4, .v (.int .i64 7)), (7, .v (.int .i64 8)), (8, .v (.int .i64 7))]) h31 ⟨by kernel_rfl, by kernel_rfl, by kernel_rfl, by kernel_rfl, by kernel_rfl, trivial⟩) (fun b1 g1 e1 => ?_)
  refine givenS_ops (N := 21) (i := 7) (d := 18) (s := .p 0 7) (l := [8]) rfl rfl rfl (by decide) g1 (op_indexSl (j := 7) (i := 0) rfl (g1.2 11 _ rfl) (g1.2 12 _ rfl) Tryd.underlying22 Tryd.sizeOf5 (by decide)) (fun b2 g2 e2 => ?_)
  refine put_ops (N := 21) (n := 8) (k := 0) (i := 7) (u := .int .u8 (IntKind.u8.wrap (v / 72057594037927936))) (l := []) tabOk g2 M28 (by kernel_rfl) rfl (fun W32 M32 G32 => ?_)
  have h32 := sub_ok (E := [(0, .v (.int .u64 v)), (3, .s 0 0 8 8), (7, .v (.int .i64 8)), (8, .v (.int .i64 7))]) g2 ⟨by kernel_rfl, by kernel_rfl, by kernel_rfl, by kernel_rfl, trivial⟩
  have d32 := e2.trans (e1.trans d31)
  replace M32 : Mw (bg [⟨g, 5, 8, (fun _ => .int .u8 0)⟩]) [⟨g, 5, 8, (upm (upm (upm (upm (upm (upm (upm (upm (fun _ => .int .u8 0) 0 (.int .u8 (IntKind.u8.wrap (v / 1)))) 1 (.int .u8 (IntKind.u8.wrap (v / 256)))) 2 (.int .u8 (IntKind.u8.wrap (v / 65536)))) 3 (.int .u8 (IntKind.u8.wrap (v / 16777216)))) 4 (.int .u8 (IntKind.u8.wrap (v / 4294967296)))) 5 (.int .u8 (IntKind.u8.wrap (v / 1099511627776)))) 6 (.int .u8 (IntKind.u8.wrap (v / 281474976710656)))) 7 (.int .u8 (IntKind.u8.wrap (v / 72057594037927936))))⟩] W32 := M32
  have F32 := Fr.comp F28 G32 (fun x hx => Or.inr (by simp at hx; subst hx; exact hg))
  clear g1 g2 e1 e2 h31 d31 M28 F28 G32
  show Code.wp _ _ _ _ _
  refine regM_seq (N := 21) (T := TT) (n := 2) (E2 := [(0, .v (.int .u64 v)), (3, .s 0 0 8 8), (7, .v (.int .i64 8)), (8, .v (.int .i64 8))]) tabOk h32 M32 rfl (by kernel_rfl) ⟨by kernel_rfl, by kernel_rfl, by kernel_rfl, by kernel_rfl, trivial⟩ (fun a33 h33 d33 => ?_)
  replace d33 := d33.trans d32
  clear h32 d32
  show Code.rounds _ _ _ _ _ _
  rw [rounds_succ]
  refine wp_seq ?_
  refine regM_seq (N := 21) (T := TT) (n := 1) (E2 := [(0, .v (.int .u64 v)), (3, .s 0 0 8 8), (7, .v (.int .i64 8)), (8, .v (.int .i64 8)), (9, .v (.bool false))]) tabOk h33 M32 rfl (by kernel_rfl) ⟨by kernel_rfl, by kernel_rfl, by kernel_rfl, by kernel_rfl, by kernel_rfl, trivial⟩ (fun a34 h34 d34 => ?_)
  show Code.wp _ _ _ _ _
  replace d34 := d34.trans d33
  clear h33 d33
  refine wp_seq ?_
  refine wp_cond_false (h34.2 9 _ rfl) ?_
  refine wp_exit ?_
  refine then_exit (then_exit (exit_in ?_))
  show Code.wp _ _ _ _ _
  refine wp_seq ?_
  refine regM_seq (N := 21) (T := TT) (n := 2) (E2 := [(0, .v (.int .u64 v)), (2, .s 0 0 8 8), (3, .s 0 0 8 8), (7, .v (.int .i64 8))]) tabOk h34 M32 rfl (by kernel_rfl) ⟨by kernel_rfl, by kernel_rfl, by kernel_rfl, by kernel_rfl, trivial⟩ (fun a35 h35 d35 => ?_)
  show Code.wp _ _ _ _ _
  replace d35 := d35.trans d34
  clear h34 d34
  refine wp_ret ?_
  have R := bl_R (k := .u8) (x := lowL v) (base := w.heap.size) (M32.2.get (k := 0) rfl) (fun i hi => ?_) hg (by show 8 ≤ 140737488355328; decide)
  · exact ⟨d35, _, results_tmp rfl _ _ _, _, congrArg Ending.returned (h35.2 2 _ rfl), R, F32.below _ (Nat.le_refl _) (by simp)⟩
  · have hi' : i < 8 := hi
    rcases (by omega : i = 0 ∨ i = 1 ∨ i = 2 ∨ i = 3 ∨ i = 4 ∨ i = 5 ∨ i = 6 ∨ i = 7) with rfl | rfl | rfl | rfl | rfl | rfl | rfl | rfl
    all_goals rfl
set_option maxHeartbeats 8000000 in
set_option maxRecDepth 100000 in
theorem low_walk (v : Int) (w : World) : Calls Tryd.prog 17 #[.int .u64 v] w fun e w' => ∃ r, e = .returned r ∧ Wrote w ((List.range 8).map (lowL v)) r w' := by
  refine calls_of_wp Tryd.func17 rfl ?_
  have hA := has_one (β := fun _ => 0) (.v (.int .u64 v)) 20
  refine wp_seq ?_
  refine reg_seq (N := 21) (T := TT) (M := fun _ _ => none) (n := 1) (E2 := [(0, .v (.int .u64 v))]) tabOk hA noMem rfl (by kernel_rfl) ⟨by kernel_rfl, trivial⟩ (fun a1 h1 d1 => ?_)
  show Code.wp _ _ _ _ _
  refine wp_seq ?_
  refine wp_region ?_
  refine new_ops (N := 21) (i := 0) (d := 5) (l := [1]) rfl rfl rfl (by decide) h1 (op_mk (n := 8) (bt := 1) (cs := Array.replicate 8 (.int .u8 0)) rfl rfl rfl Tryd.underlying22 (by kernel_rfl) (by decide) (by decide)) (fun a2 h2 d2 => ?_)
  have K1 := bl_rep0 w 8 (.int .u8 0) 5
  have F1 := (Fr.refl [] w).alloc (.cells (Array.replicate 8 (.int .u8 0)) 5)
  generalize w.alloc (.cells (Array.replicate 8 (.int .u8 0)) 5) = W1 at F1 K1 ⊢
  refine given_ops (N := 21) (i := 1) (d := 3) (v := .slice (some ⟨w.heap.size, 0, none⟩) 8 8) (l := []) rfl rfl rfl (by decide) h2 (op_assign rfl (h2.2 5 _ rfl)) (fun a3 h3 d3 => ?_)
  show Code.wp _ _ _ _ _
  exact low_rest w.heap.size v w W1 a3 (Nat.le_refl _) (bg [⟨w.heap.size, 5, 8, fun _ => .int .u8 0⟩]) ⟨rfl, K1, by simp, trivial⟩ F1 (has_list h3.1 ⟨h3.2 0 _ rfl, h3.2 3 _ rfl, trivial⟩) (d3.trans (d2.trans d1))
end Go.Proofs.YtnehminojlocoaaDoor.PAll
namespace Go.Proofs.YtnehminojlocoaaDoor.PAll
open Go.RowKit Go.Proofs.YtnehminojlocoaaDoorW.PrintWords Go.Proofs.YtnehminojlocoaaDoorW.PrintLast Go.Proofs.YtnehminojlocoaaDoorW.PrintMore
set_option linter.unusedVariables false
set_option linter.unusedSimpArgs false
/-- The package's variable for a bad key holds an error. -/
def GlobK (w : World) : Prop := ∃ pv, w.cell? ⟨0, 0, none⟩ = some (.iface 109 pv)
theorem GlobK.on {w W : World} (h : GlobK w) (hb : Below w.heap.size w W) : GlobK W := by
  obtain ⟨pv, h⟩ := h
  exact ⟨pv, (hb.cell (World.block_lt_of_cell? w _ h)).trans h⟩
def Died (w : World) (e : Ending) (w' : World) : Prop := (∃ pv, e = .panicked [{ v := .iface 109 pv, recovered := false }]) ∧ Below w.heap.size w w'
end Go.Proofs.YtnehminojlocoaaDoor.PAll
namespace Go.Proofs.YtnehminojlocoaaDoor.PAll
open Go.RowKit Go.Proofs.YtnehminojlocoaaDoorW.PrintWords Go.Proofs.YtnehminojlocoaaDoorW.PrintLast Go.Proofs.YtnehminojlocoaaDoorW.PrintMore
set_option linter.unusedVariables false
set_option linter.unusedSimpArgs false
theorem own_law (l : List Int) (h : l.length < 140737488355328) : impl_own.f l = some l := by
  unfold impl_own.f
  rw [Option.bind_some, if_pos (by simpa using h), List.nil_append]
def lx (l : List Int) (i : Nat) : Int := l.getD i 0
/-- A row of the call's own, as octets in a block. -/
theorem R_bts {W : World} {base : Nat} {ok : Nat → Prop} {v : Value} {l : List Int} (h : Kd.R (Kd.int .u8) 5 W base ok v l) : ∃ A c b, v = .slice A l.length c ∧ l.length ≤ c ∧ (0 < l.length → A = some ⟨b, 0, none⟩) ∧ Bts b 0 l.length (lx l) W := by
  have ho := Kd.own_of_R (enc := Value.int .u8) (h1 := fun _ => rfl) h
  rcases ho.2 with ⟨rfl, h0⟩ | ⟨g, cap, cur, rfl, hg, hh, hle, hmx, hsz, htk⟩
  · exact ⟨none, 0, 0, by rw [h0], by omega, fun h => by omega, fun i hi => by omega⟩
  · refine ⟨_, cap, g, rfl, hle, fun _ => rfl, fun i hi => ?_⟩
    rw [Nat.zero_add, blk_cell hh, ← Array.getElem?_toList]
    have e : cur.toList[i]? = (cur.toList.take (l.length * 1))[i]? := by rw [List.getElem?_take_of_lt (by omega)]
    rw [e, htk]
    unfold lx
    rw [List.getD_eq_getElem?_getD, List.getElem?_eq_getElem hi]
    simp [encs, hi]
end Go.Proofs.YtnehminojlocoaaDoor.PAll
namespace Go.Proofs.YtnehminojlocoaaDoor.PAll
open Go.RowKit Go.Proofs.YtnehminojlocoaaDoorW.PrintWords Go.Proofs.YtnehminojlocoaaDoorW.PrintLast Go.Proofs.YtnehminojlocoaaDoorW.PrintMore
set_option linter.unusedVariables false
set_option linter.unusedSimpArgs false
theorem Below.keep {B : Nat} {w W W' : World} (h : Below B w W) (hb : Below W.heap.size W W') (hB : B ≤ W.heap.size) : Below B w W' := h.trans (hb.mono hB)
end Go.Proofs.YtnehminojlocoaaDoor.PAll
namespace Go.Proofs.YtnehminojlocoaaDoor.PAll
open Go.RowKit Go.Proofs.YtnehminojlocoaaDoorW.PrintWords Go.Proofs.YtnehminojlocoaaDoorW.PrintLast Go.Proofs.YtnehminojlocoaaDoorW.PrintMore
set_option linter.unusedVariables false
set_option linter.unusedSimpArgs false
/-- The octets that a row of octets holds. -/
def fB (f : (Nat → Value) → Nat → Value) (i : Nat) : Int := match f (fun _ => .int .u8 0) i with
  | .int _ x => x
  | _ => 0
theorem fB_16 (S : Nat → Int) (i : Nat) : fin16 S (fun _ => .int .u8 0) i = .int .u8 (fB (fin16 S) i) := by
  have h : ∃ x, fin16 S (fun _ => .int .u8 0) i = .int .u8 x := by
    unfold fin16 putB
    repeat' split
    all_goals exact ⟨_, rfl⟩
  obtain ⟨x, hx⟩ := h
  unfold fB
  rw [hx]
theorem fB_32 (S : Nat → Int) (i : Nat) : fin32 S (fun _ => .int .u8 0) i = .int .u8 (fB (fin32 S) i) := by
  have h : ∃ x, fin32 S (fun _ => .int .u8 0) i = .int .u8 x := by
    unfold fin32 putB
    repeat' split
    all_goals exact ⟨_, rfl⟩
  obtain ⟨x, hx⟩ := h
  unfold fB
  rw [hx]
end Go.Proofs.YtnehminojlocoaaDoor.PAll
namespace Go.Proofs.YtnehminojlocoaaDoor.PAll
open Go.RowKit Go.Proofs.YtnehminojlocoaaDoorW.PrintWords Go.Proofs.YtnehminojlocoaaDoorW.PrintLast Go.Proofs.YtnehminojlocoaaDoorW.PrintMore
set_option linter.unusedVariables false
set_option linter.unusedSimpArgs false
theorem GlobK.below {w W : World} (h : GlobK w) (hb : Below w.heap.size w W) : GlobK W := h.on hb
end Go.Proofs.YtnehminojlocoaaDoor.PAll
namespace Go.Proofs.YtnehminojlocoaaDoor.PAll
open Go.RowKit Go.Proofs.YtnehminojlocoaaDoorW.PrintWords Go.Proofs.YtnehminojlocoaaDoorW.PrintLast Go.Proofs.YtnehminojlocoaaDoorW.PrintMore
set_option linter.unusedVariables false
set_option linter.unusedSimpArgs false
theorem cell_spot {w : World} {a : Addr} {v : Value} (h : w.cell? a = some v) : a.spot = none := by
  unfold World.cell? at h
  split at h
  · split at h
    · cases h
    · next hs => cases hq : a.spot <;> simp_all
  · cases h
theorem C_bts {w : World} {A : Option Addr} {l : List Int} (h : Kd.C (Kd.int .u8) w A l.length l) : ∃ b o, (0 < l.length → A = some ⟨b, o, none⟩) ∧ Bts b o l.length (lx l) w := by
  by_cases h0 : 0 < l.length
  · obtain ⟨ad, rfl, hc⟩ := h.2.2 h0
    have hcell : ∀ j, j < l.length → w.cell? (ad.add j) = some (.int .u8 (lx l j)) := by
      intro j hj
      obtain ⟨c, h1, rfl, h3⟩ := hc j _ (List.getElem?_eq_getElem hj)
      have h4 : w.cell? (ad.add (j * 1 + 0)) = some (.int .u8 l[j]) := h3 0 _ rfl
      unfold lx
      rw [List.getD_eq_getElem?_getD, List.getElem?_eq_getElem hj]
      rw [Nat.mul_one, Nat.add_zero] at h4
      exact h4
    have hs : ad.spot = none := cell_spot (a := ad) (hcell 0 h0)
    obtain ⟨b, o, sp⟩ := ad
    obtain rfl : sp = none := hs
    refine ⟨b, o, fun _ => rfl, fun j hj => ?_⟩
    have e : (Addr.add ⟨b, o, none⟩ j) = ⟨b, o + j, none⟩ := by
      by_cases h0 : j = 0
      · simp [h0, Addr.add]
      · simp [h0, Addr.add]
    rw [← e]
    exact hcell j hj
  · exact ⟨0, 0, fun h => absurd h h0, fun i hi => absurd (Nat.lt_of_le_of_lt (Nat.zero_le _) hi) h0⟩
/-- What impl.HighwaySum answers. -/
def sumS (sz : Int) (S : Nat → Int) : List Int := if sz = 8 then (List.range 8).map (lowL (le8 (byt (add4 (mixN 4 S) 0 4 8 12)))) else if sz = 16 then (List.range 16).map (fB (fin16 (mixN 6 S))) else (List.range 32).map (fB (fin32 (mixN 10 S)))
def hsf (a0 : Int) (l1 l2 : List Int) : Option (List Int × Bool) :=
  if (a0 = 8 ∨ a0 = 16 ∨ a0 = 32) ∧ l1.length < 140737488355328 ∧ l2.length < 140737488355328 then (if l1.length = 32 then some (sumS a0 (hvS (lx l1) (lx l2) l2.length), true) else some ([], false)) else none
/-- What spec.Highway answers. -/
def octs (l : List Int) : Prop := ∀ x ∈ l, 0 ≤ x ∧ x < 256
instance (l : List Int) : Decidable (octs l) := inferInstanceAs (Decidable (∀ x ∈ l, 0 ≤ x ∧ x < 256))
theorem octs_oct {l : List Int} (h : octs l) : Oct l.length (lx l) := fun i hi => by
  unfold lx
  rw [List.getD_eq_getElem?_getD, List.getElem?_eq_getElem hi]
  exact h _ (List.getElem_mem hi)
def hwf (a0 : Int) (l1 l2 : List Int) : Option (List Int) :=
  if (a0 = 8 ∨ a0 = 16 ∨ a0 = 32) ∧ l1.length = 32 ∧ octs l1 ∧ octs l2 ∧ l2.length ≤ 9223372036854775807 then some (outS a0 (hwS (lx l1) (lx l2) l2.length)) else none
theorem hwf_calls (a0 : Int) (A1 : Option Addr) (c1 : Nat) (l1 : List Int) (A2 : Option Addr) (c2 : Nat) (l2 : List Int) (r : List Int) (w : World) (hr1 : Kd.C (Kd.int .u8) w A1 l1.length l1) (hc1 : l1.length ≤ c1) (hr2 : Kd.C (Kd.int .u8) w A2 l2.length l2) (hc2 : l2.length ≤ c2) (h : hwf a0 l1 l2 = some r) :
    Calls Tryd.prog 11 #[.int .i64 a0, .slice A1 l1.length c1, .slice A2 l2.length c2] w fun e w' => ∃ v0_ : Value, e = .returned v0_ ∧ Kd.R (Kd.int .u8) 5 w' w.heap.size (fun _ => True) v0_ r ∧ Below w.heap.size w w' := by
  unfold hwf at h
  split at h
  · next hc =>
    obtain ⟨h8, hl1, o1, o2, hl2⟩ := hc
    obtain rfl := Option.some.inj h
    obtain ⟨kb, ko, hA1, hy⟩ := C_bts hr1
    obtain ⟨b, o, hA2, hx⟩ := C_bts hr2
    obtain rfl := hA1 (by omega)
    have oy := octs_oct o1
    rw [hl1] at hy oy hc1 ⊢
    exact highway_walk a0 h8 kb ko c1 (lx l1) (lx l2) b o l2.length c2 A2 w hc1 hy oy hc2 hl2 hA2 hx (octs_oct o2)
  · cases h
end Go.Proofs.YtnehminojlocoaaDoor.PAll
namespace Go.Proofs.YtnehminojlocoaaDoor.PAll
open Go.RowKit Go.Proofs.YtnehminojlocoaaDoorW.PrintWords Go.Proofs.YtnehminojlocoaaDoorW.PrintLast Go.Proofs.YtnehminojlocoaaDoorW.PrintMore
set_option linter.unusedVariables false
set_option linter.unusedSimpArgs false
def W64 (x : Int) : Prop := 0 ≤ x ∧ x < 18446744073709551616
theorem and_mask (n s m : Nat) (hm : m = 255 <<< s) : n &&& m = n / 2 ^ s % 256 * 2 ^ s := by
  subst hm
  rw [← Nat.shiftRight_eq_div_pow, show (256 : Nat) = 2 ^ 8 by rfl, ← Nat.and_two_pow_sub_one_eq_mod, ← Nat.shiftLeft_eq]
  apply Nat.eq_of_testBit_eq
  intro i
  simp only [Nat.testBit_and, Nat.testBit_shiftLeft, Nat.testBit_shiftRight]
  by_cases h : s ≤ i
  · rw [show s + (i - s) = i by omega]
    simp [h]
  · simp [h]
theorem byte_and (v m q : Int) (s : Nat) (hv : W64 v) (hm : m = ((255 <<< s : Nat) : Int)) (hq : ((2 ^ s : Nat) : Int) = q) (hs : s ≤ 56) : Go.bits .and .u64 v m = v / q % 256 * q := by
  subst hm
  subst hq
  obtain ⟨v, rfl⟩ := Int.eq_ofNat_of_zero_le hv.1
  have h1 := hv.2
  have h2 : 255 <<< s < 18446744073709551616 := by
    rw [Nat.shiftLeft_eq]
    have : 2 ^ s ≤ 2 ^ 56 := Nat.pow_le_pow_right (by decide) hs
    omega
  rw [u64_and_nat v _ (by omega) h2, and_mask v s _ rfl]
  simp
/-- A number by its octets. -/
theorem n8_byt (v : Int) (h : W64 v) : N8 (byt v) = v := by
  obtain ⟨h1, h2⟩ := h
  show v % 256 + v / 256 % 256 * 256 + v / 65536 % 256 * 65536 + v / 16777216 % 256 * 16777216 + v / 4294967296 % 256 * 4294967296 + v / 1099511627776 % 256 * 1099511627776 + v / 281474976710656 % 256 * 281474976710656 + v / 72057594037927936 % 256 * 72057594037927936 = v
  omega
theorem byt_oct (v : Int) (i : Nat) : 0 ≤ byt v i ∧ byt v i < 256 := by
  unfold byt
  split
  all_goals omega
theorem oct_eq (n f t q r : Int) (hn : W64 n) (hf : 0 ≤ f ∧ f < 8) (ht : 0 ≤ t ∧ t < 8) (hq : ((2 ^ (8 * f.toNat) : Nat) : Int) = q) (hr : ((2 ^ (8 * t.toNat) : Nat) : Int) = r) : spec_octet.f n f t = some (n / q % 256 * r) := by
  obtain ⟨f, rfl⟩ := Int.eq_ofNat_of_zero_le hf.1
  obtain ⟨t, rfl⟩ := Int.eq_ofNat_of_zero_le ht.1
  have e1 : wrap64 (8 * (f : Int)) = ((8 * f : Nat) : Int) := by unfold wrap64; omega
  have e2 : wrap64 (8 * (t : Int)) = ((8 * t : Nat) : Int) := by unfold wrap64; omega
  rw [oct_some n f t (by rw [e1]; omega) (by rw [e2]; omega), e1, e2]
  rw [Int.toNat_natCast] at hq hr
  have hf8 : 8 * f ≤ 64 := by omega
  have ht8 : 8 * t ≤ 64 := by omega
  have h1 : shr .u64 n ((8 * f : Nat) : Int) = n / q := by
    unfold shr
    rw [Int.toNat_natCast, Nat.min_eq_left (by simp [IntKind.bits]; omega), ← hq]
    simp
  have hq1 : 1 ≤ 2 ^ (8 * f) := Nat.one_le_two_pow
  have hq0 : 0 ≤ q := by
    rw [← hq]
    exact Int.natCast_nonneg _
  have h2 : W64 (n / q) := ⟨Int.ediv_nonneg hn.1 hq0, Int.lt_of_le_of_lt (Int.ediv_le_self _ hn.1) hn.2⟩
  have h3 : Go.bits .and .u64 (n / q) 255 = n / q % 256 := by
    rw [byte_and (n / q) 255 1 0 h2 rfl rfl (by decide)]
    omega
  rw [h1, h3]
  congr 1
  unfold shl
  rw [Int.toNat_natCast, Nat.min_eq_left (by simp [IntKind.bits]; omega)]
  have e3 : (2 : Int) ^ (8 * t) = r := by rw [← hr]; simp
  rw [e3]
  have hr56 : 2 ^ (8 * t) ≤ 2 ^ 56 := Nat.pow_le_pow_right (by decide) (by have := ht.2; omega)
  have hr0 : 0 ≤ r := by
    rw [← hr]
    exact Int.natCast_nonneg _
  have hr1 : r ≤ 72057594037927936 := by
    rw [← hr]
    exact Int.ofNat_le.mpr hr56
  generalize n / q = x
  have hx0 : 0 ≤ x % 256 := by omega
  have hx1 : x % 256 ≤ 255 := by omega
  have hm : x % 256 * r ≤ 255 * 72057594037927936 := Int.mul_le_mul hx1 hr1 hr0 (by decide)
  have hm0 : 0 ≤ x % 256 * r := Int.mul_nonneg hx0 hr0
  exact w64 _ hm0 (by omega)
end Go.Proofs.YtnehminojlocoaaDoor.PAll
namespace Go.Proofs.YtnehminojlocoaaDoor.PAll
open Go.RowKit Go.Proofs.YtnehminojlocoaaDoorW.PrintWords Go.Proofs.YtnehminojlocoaaDoorW.PrintLast Go.Proofs.YtnehminojlocoaaDoorW.PrintMore
set_option linter.unusedVariables false
set_option linter.unusedSimpArgs false
def lowS (one zero : Int) : Int := zero / 16777216 % 256 * 1 + one / 4294967296 % 256 * 256 + zero / 65536 % 256 * 65536 + zero / 1099511627776 % 256 * 16777216 + one / 281474976710656 % 256 * 4294967296 + zero / 256 % 256 * 1099511627776 + one / 72057594037927936 % 256 * 281474976710656 + zero / 1 % 256 * 72057594037927936
def highS (one zero : Int) : Int := one / 16777216 % 256 * 1 + zero / 4294967296 % 256 * 256 + one / 65536 % 256 * 65536 + one / 1099511627776 % 256 * 16777216 + one / 256 % 256 * 4294967296 + zero / 281474976710656 % 256 * 1099511627776 + one / 1 % 256 * 281474976710656 + zero / 72057594037927936 % 256 * 72057594037927936
set_option maxHeartbeats 8000000 in
set_option maxRecDepth 100000 in
theorem or_lo (one zero : Int) : Go.bits .or .u64 (Go.bits .or .u64 (Go.bits .or .u64 (Go.bits .or .u64 (Go.bits .or .u64 (Go.bits .or .u64 (Go.bits .or .u64 (zero / 16777216 % 256 * 1) (one / 4294967296 % 256 * 256)) (zero / 65536 % 256 * 65536)) (zero / 1099511627776 % 256 * 16777216)) (one / 281474976710656 % 256 * 4294967296)) (zero / 256 % 256 * 1099511627776)) (one / 72057594037927936 % 256 * 281474976710656)) (zero / 1 % 256 * 72057594037927936) = lowS one zero := by
  unfold lowS
  have b0 : 0 ≤ zero / 16777216 % 256 ∧ zero / 16777216 % 256 < 256 := by omega
  have b1 : 0 ≤ one / 4294967296 % 256 ∧ one / 4294967296 % 256 < 256 := by omega
  have b2 : 0 ≤ zero / 65536 % 256 ∧ zero / 65536 % 256 < 256 := by omega
  have b3 : 0 ≤ zero / 1099511627776 % 256 ∧ zero / 1099511627776 % 256 < 256 := by omega
  have b4 : 0 ≤ one / 281474976710656 % 256 ∧ one / 281474976710656 % 256 < 256 := by omega
  have b5 : 0 ≤ zero / 256 % 256 ∧ zero / 256 % 256 < 256 := by omega
  have b6 : 0 ≤ one / 72057594037927936 % 256 ∧ one / 72057594037927936 % 256 < 256 := by omega
  have b7 : 0 ≤ zero / 1 % 256 ∧ zero / 1 % 256 < 256 := by omega
  generalize zero / 16777216 % 256 = d0 at *
  generalize one / 4294967296 % 256 = d1 at *
  generalize zero / 65536 % 256 = d2 at *
  generalize zero / 1099511627776 % 256 = d3 at *
  generalize one / 281474976710656 % 256 = d4 at *
  generalize zero / 256 % 256 = d5 at *
  generalize one / 72057594037927936 % 256 = d6 at *
  generalize zero / 1 % 256 = d7 at *
  rw [or_int (d0 * 1) (d1 * 256) (d0 * 1 + d1 * 256) d1 8 (by omega) (by omega) (by omega) (by omega) (by omega) (by omega)]
  rw [or_int (d0 * 1 + d1 * 256) (d2 * 65536) (d0 * 1 + d1 * 256 + d2 * 65536) d2 16 (by omega) (by omega) (by omega) (by omega) (by omega) (by omega)]
  rw [or_int (d0 * 1 + d1 * 256 + d2 * 65536) (d3 * 16777216) (d0 * 1 + d1 * 256 + d2 * 65536 + d3 * 16777216) d3 24 (by omega) (by omega) (by omega) (by omega) (by omega) (by omega)]
  rw [or_int (d0 * 1 + d1 * 256 + d2 * 65536 + d3 * 16777216) (d4 * 4294967296) (d0 * 1 + d1 * 256 + d2 * 65536 + d3 * 16777216 + d4 * 4294967296) d4 32 (by omega) (by omega) (by omega) (by omega) (by omega) (by omega)]
  rw [or_int (d0 * 1 + d1 * 256 + d2 * 65536 + d3 * 16777216 + d4 * 4294967296) (d5 * 1099511627776) (d0 * 1 + d1 * 256 + d2 * 65536 + d3 * 16777216 + d4 * 4294967296 + d5 * 1099511627776) d5 40 (by omega) (by omega) (by omega) (by omega) (by omega) (by omega)]
  rw [or_int (d0 * 1 + d1 * 256 + d2 * 65536 + d3 * 16777216 + d4 * 4294967296 + d5 * 1099511627776) (d6 * 281474976710656) (d0 * 1 + d1 * 256 + d2 * 65536 + d3 * 16777216 + d4 * 4294967296 + d5 * 1099511627776 + d6 * 281474976710656) d6 48 (by omega) (by omega) (by omega) (by omega) (by omega) (by omega)]
  rw [or_int (d0 * 1 + d1 * 256 + d2 * 65536 + d3 * 16777216 + d4 * 4294967296 + d5 * 1099511627776 + d6 * 281474976710656) (d7 * 72057594037927936) (d0 * 1 + d1 * 256 + d2 * 65536 + d3 * 16777216 + d4 * 4294967296 + d5 * 1099511627776 + d6 * 281474976710656 + d7 * 72057594037927936) d7 56 (by omega) (by omega) (by omega) (by omega) (by omega) (by omega)]
set_option maxHeartbeats 8000000 in
set_option maxRecDepth 100000 in
theorem or_hi (one zero : Int) : Go.bits .or .u64 (Go.bits .or .u64 (Go.bits .or .u64 (Go.bits .or .u64 (Go.bits .or .u64 (Go.bits .or .u64 (Go.bits .or .u64 (one / 16777216 % 256 * 1) (zero / 4294967296 % 256 * 256)) (one / 65536 % 256 * 65536)) (one / 1099511627776 % 256 * 16777216)) (one / 256 % 256 * 4294967296)) (zero / 281474976710656 % 256 * 1099511627776)) (one / 1 % 256 * 281474976710656)) (zero / 72057594037927936 % 256 * 72057594037927936) = highS one zero := by
  unfold highS
  have b0 : 0 ≤ one / 16777216 % 256 ∧ one / 16777216 % 256 < 256 := by omega
  have b1 : 0 ≤ zero / 4294967296 % 256 ∧ zero / 4294967296 % 256 < 256 := by omega
  have b2 : 0 ≤ one / 65536 % 256 ∧ one / 65536 % 256 < 256 := by omega
  have b3 : 0 ≤ one / 1099511627776 % 256 ∧ one / 1099511627776 % 256 < 256 := by omega
  have b4 : 0 ≤ one / 256 % 256 ∧ one / 256 % 256 < 256 := by omega
  have b5 : 0 ≤ zero / 281474976710656 % 256 ∧ zero / 281474976710656 % 256 < 256 := by omega
  have b6 : 0 ≤ one / 1 % 256 ∧ one / 1 % 256 < 256 := by omega
  have b7 : 0 ≤ zero / 72057594037927936 % 256 ∧ zero / 72057594037927936 % 256 < 256 := by omega
  generalize one / 16777216 % 256 = d0 at *
  generalize zero / 4294967296 % 256 = d1 at *
  generalize one / 65536 % 256 = d2 at *
  generalize one / 1099511627776 % 256 = d3 at *
  generalize one / 256 % 256 = d4 at *
  generalize zero / 281474976710656 % 256 = d5 at *
  generalize one / 1 % 256 = d6 at *
  generalize zero / 72057594037927936 % 256 = d7 at *
  rw [or_int (d0 * 1) (d1 * 256) (d0 * 1 + d1 * 256) d1 8 (by omega) (by omega) (by omega) (by omega) (by omega) (by omega)]
  rw [or_int (d0 * 1 + d1 * 256) (d2 * 65536) (d0 * 1 + d1 * 256 + d2 * 65536) d2 16 (by omega) (by omega) (by omega) (by omega) (by omega) (by omega)]
  rw [or_int (d0 * 1 + d1 * 256 + d2 * 65536) (d3 * 16777216) (d0 * 1 + d1 * 256 + d2 * 65536 + d3 * 16777216) d3 24 (by omega) (by omega) (by omega) (by omega) (by omega) (by omega)]
  rw [or_int (d0 * 1 + d1 * 256 + d2 * 65536 + d3 * 16777216) (d4 * 4294967296) (d0 * 1 + d1 * 256 + d2 * 65536 + d3 * 16777216 + d4 * 4294967296) d4 32 (by omega) (by omega) (by omega) (by omega) (by omega) (by omega)]
  rw [or_int (d0 * 1 + d1 * 256 + d2 * 65536 + d3 * 16777216 + d4 * 4294967296) (d5 * 1099511627776) (d0 * 1 + d1 * 256 + d2 * 65536 + d3 * 16777216 + d4 * 4294967296 + d5 * 1099511627776) d5 40 (by omega) (by omega) (by omega) (by omega) (by omega) (by omega)]
  rw [or_int (d0 * 1 + d1 * 256 + d2 * 65536 + d3 * 16777216 + d4 * 4294967296 + d5 * 1099511627776) (d6 * 281474976710656) (d0 * 1 + d1 * 256 + d2 * 65536 + d3 * 16777216 + d4 * 4294967296 + d5 * 1099511627776 + d6 * 281474976710656) d6 48 (by omega) (by omega) (by omega) (by omega) (by omega) (by omega)]
  rw [or_int (d0 * 1 + d1 * 256 + d2 * 65536 + d3 * 16777216 + d4 * 4294967296 + d5 * 1099511627776 + d6 * 281474976710656) (d7 * 72057594037927936) (d0 * 1 + d1 * 256 + d2 * 65536 + d3 * 16777216 + d4 * 4294967296 + d5 * 1099511627776 + d6 * 281474976710656 + d7 * 72057594037927936) d7 56 (by omega) (by omega) (by omega) (by omega) (by omega) (by omega)]
set_option maxHeartbeats 8000000 in
set_option maxRecDepth 100000 in
theorem zip_law (one zero : Int) (h1 : W64 one) (h0 : W64 zero) : spec_zipped.f one zero = some (highS one zero, lowS one zero) := by
  unfold spec_zipped.f
  rw [oct_eq zero 3 0 16777216 1 h0 ⟨by decide, by decide⟩ ⟨by decide, by decide⟩ rfl rfl, Option.bind_some]
  rw [oct_eq one 4 1 4294967296 256 h1 ⟨by decide, by decide⟩ ⟨by decide, by decide⟩ rfl rfl, Option.bind_some]
  rw [oct_eq zero 2 2 65536 65536 h0 ⟨by decide, by decide⟩ ⟨by decide, by decide⟩ rfl rfl, Option.bind_some]
  rw [oct_eq zero 5 3 1099511627776 16777216 h0 ⟨by decide, by decide⟩ ⟨by decide, by decide⟩ rfl rfl, Option.bind_some]
  rw [oct_eq one 6 4 281474976710656 4294967296 h1 ⟨by decide, by decide⟩ ⟨by decide, by decide⟩ rfl rfl, Option.bind_some]
  rw [oct_eq zero 1 5 256 1099511627776 h0 ⟨by decide, by decide⟩ ⟨by decide, by decide⟩ rfl rfl, Option.bind_some]
  rw [oct_eq one 7 6 72057594037927936 281474976710656 h1 ⟨by decide, by decide⟩ ⟨by decide, by decide⟩ rfl rfl, Option.bind_some]
  rw [oct_eq zero 0 7 1 72057594037927936 h0 ⟨by decide, by decide⟩ ⟨by decide, by decide⟩ rfl rfl, Option.bind_some]
  rw [oct_eq one 3 0 16777216 1 h1 ⟨by decide, by decide⟩ ⟨by decide, by decide⟩ rfl rfl, Option.bind_some]
  rw [oct_eq zero 4 1 4294967296 256 h0 ⟨by decide, by decide⟩ ⟨by decide, by decide⟩ rfl rfl, Option.bind_some]
  rw [oct_eq one 2 2 65536 65536 h1 ⟨by decide, by decide⟩ ⟨by decide, by decide⟩ rfl rfl, Option.bind_some]
  rw [oct_eq one 5 3 1099511627776 16777216 h1 ⟨by decide, by decide⟩ ⟨by decide, by decide⟩ rfl rfl, Option.bind_some]
  rw [oct_eq one 1 4 256 4294967296 h1 ⟨by decide, by decide⟩ ⟨by decide, by decide⟩ rfl rfl, Option.bind_some]
  rw [oct_eq zero 6 5 281474976710656 1099511627776 h0 ⟨by decide, by decide⟩ ⟨by decide, by decide⟩ rfl rfl, Option.bind_some]
  rw [oct_eq one 0 6 1 281474976710656 h1 ⟨by decide, by decide⟩ ⟨by decide, by decide⟩ rfl rfl, Option.bind_some]
  rw [oct_eq zero 7 7 72057594037927936 72057594037927936 h0 ⟨by decide, by decide⟩ ⟨by decide, by decide⟩ rfl rfl, Option.bind_some]
  rw [or_lo, or_hi]
theorem pLo_law (one zero : Int) (h1 : W64 one) (h0 : W64 zero) : pLo one zero = lowS one zero := by
  unfold pLo
  rw [zip_law one zero h1 h0]
  rfl
theorem pHi_law (one zero : Int) (h1 : W64 one) (h0 : W64 zero) : pHi one zero = highS one zero := by
  unfold pHi
  rw [zip_law one zero h1 h0]
  rfl
set_option maxHeartbeats 8000000 in
set_option maxRecDepth 100000 in
theorem z11_law (zero one : Int) (h0 : W64 zero) (h1 : W64 one) : z11 zero one = lowS one zero := by
  unfold lowS
  have k0 : IntKind.u64.wrap (zero * 72057594037927936) = zero / 1 % 256 * 72057594037927936 := by
    rw [IntKind.wrap_u64]
    obtain ⟨g1, g2⟩ := h0
    omega
  unfold z11 z9 z7 z5 z3 z1
  have ma2 := byte_and zero 16711680 65536 16 h0 rfl rfl (by decide)
  have mb7 := byte_and one 18374686479671623680 72057594037927936 56 h1 rfl rfl (by decide)
  have ma5 := byte_and zero 280375465082880 1099511627776 40 h0 rfl rfl (by decide)
  have mb6 := byte_and one 71776119061217280 281474976710656 48 h1 rfl rfl (by decide)
  have ma3 := byte_and zero 4278190080 16777216 24 h0 rfl rfl (by decide)
  have mb4 := byte_and one 1095216660480 4294967296 32 h1 rfl rfl (by decide)
  have ma1 := byte_and zero 65280 256 8 h0 rfl rfl (by decide)
  rw [k0, ma2, mb7, ma5, mb6, ma3, mb4, ma1]
  clear k0 ma2 mb7 ma5 mb6 ma3 mb4 ma1
  have ea2 : 0 ≤ zero / 65536 % 256 ∧ zero / 65536 % 256 < 256 := by omega
  have eb7 : 0 ≤ one / 72057594037927936 % 256 ∧ one / 72057594037927936 % 256 < 256 := by omega
  have ea5 : 0 ≤ zero / 1099511627776 % 256 ∧ zero / 1099511627776 % 256 < 256 := by omega
  have eb6 : 0 ≤ one / 281474976710656 % 256 ∧ one / 281474976710656 % 256 < 256 := by omega
  have ea3 : 0 ≤ zero / 16777216 % 256 ∧ zero / 16777216 % 256 < 256 := by omega
  have eb4 : 0 ≤ one / 4294967296 % 256 ∧ one / 4294967296 % 256 < 256 := by omega
  have ea1 : 0 ≤ zero / 256 % 256 ∧ zero / 256 % 256 < 256 := by omega
  have ea0 : 0 ≤ zero / 1 % 256 ∧ zero / 1 % 256 < 256 := by omega
  generalize zero / 65536 % 256 = a2 at *
  generalize one / 72057594037927936 % 256 = b7 at *
  generalize zero / 1099511627776 % 256 = a5 at *
  generalize one / 281474976710656 % 256 = b6 at *
  generalize zero / 16777216 % 256 = a3 at *
  generalize one / 4294967296 % 256 = b4 at *
  generalize zero / 256 % 256 = a1 at *
  generalize zero / 1 % 256 = a0 at *
  simp only [IntKind.wrap_u64]
  omega
set_option maxHeartbeats 8000000 in
set_option maxRecDepth 100000 in
theorem z12_law (zero one : Int) (h0 : W64 zero) (h1 : W64 one) : z12 zero one = highS one zero := by
  unfold highS
  unfold z12 z10 z8 z6 z4 z2
  have ma7 := byte_and zero 18374686479671623680 72057594037927936 56 h0 rfl rfl (by decide)
  have mb2 := byte_and one 16711680 65536 16 h1 rfl rfl (by decide)
  have ma6 := byte_and zero 71776119061217280 281474976710656 48 h0 rfl rfl (by decide)
  have mb5 := byte_and one 280375465082880 1099511627776 40 h1 rfl rfl (by decide)
  have mb3 := byte_and one 4278190080 16777216 24 h1 rfl rfl (by decide)
  have ma4 := byte_and zero 1095216660480 4294967296 32 h0 rfl rfl (by decide)
  have mb0 := byte_and one 255 1 0 h1 rfl rfl (by decide)
  have mb1 := byte_and one 65280 256 8 h1 rfl rfl (by decide)
  rw [ma7, mb2, ma6, mb5, mb3, ma4, mb0, mb1]
  clear ma7 mb2 ma6 mb5 mb3 ma4 mb0 mb1
  have ea7 : 0 ≤ zero / 72057594037927936 % 256 ∧ zero / 72057594037927936 % 256 < 256 := by omega
  have eb2 : 0 ≤ one / 65536 % 256 ∧ one / 65536 % 256 < 256 := by omega
  have ea6 : 0 ≤ zero / 281474976710656 % 256 ∧ zero / 281474976710656 % 256 < 256 := by omega
  have eb5 : 0 ≤ one / 1099511627776 % 256 ∧ one / 1099511627776 % 256 < 256 := by omega
  have eb3 : 0 ≤ one / 16777216 % 256 ∧ one / 16777216 % 256 < 256 := by omega
  have ea4 : 0 ≤ zero / 4294967296 % 256 ∧ zero / 4294967296 % 256 < 256 := by omega
  have eb0 : 0 ≤ one / 1 % 256 ∧ one / 1 % 256 < 256 := by omega
  have eb1 : 0 ≤ one / 256 % 256 ∧ one / 256 % 256 < 256 := by omega
  generalize zero / 72057594037927936 % 256 = a7 at *
  generalize one / 65536 % 256 = b2 at *
  generalize zero / 281474976710656 % 256 = a6 at *
  generalize one / 1099511627776 % 256 = b5 at *
  generalize one / 16777216 % 256 = b3 at *
  generalize zero / 4294967296 % 256 = a4 at *
  generalize one / 1 % 256 = b0 at *
  generalize one / 256 % 256 = b1 at *
  simp only [IntKind.wrap_u64]
  omega
end Go.Proofs.YtnehminojlocoaaDoor.PAll
namespace Go.Proofs.YtnehminojlocoaaDoor.PAll
open Go.RowKit Go.Proofs.YtnehminojlocoaaDoorW.PrintWords Go.Proofs.YtnehminojlocoaaDoorW.PrintLast Go.Proofs.YtnehminojlocoaaDoorW.PrintMore
set_option linter.unusedVariables false
set_option linter.unusedSimpArgs false
/-- A state of numbers of 64 bits. -/
def BS (s : Nat → Int) : Prop := ∀ i, i < 16 → W64 (s i)
theorem BS.upd {s : Nat → Int} (h : BS s) (i : Nat) (x : Int) (hx : W64 x) : BS (upd s i x) := fun j hj => by
  unfold PAll.upd
  split
  · exact hx
  · exact h j hj
theorem W_wrap (x : Int) : W64 (IntKind.u64.wrap x) := by
  rw [IntKind.wrap_u64]
  refine ⟨?_, ?_⟩ <;> omega
theorem W_xor {a b : Int} (ha : W64 a) (hb : W64 b) : W64 (Go.bits .xor .u64 a b) := by
  obtain ⟨a, rfl⟩ := Int.eq_ofNat_of_zero_le ha.1
  obtain ⟨b, rfl⟩ := Int.eq_ofNat_of_zero_le hb.1
  have h1 := ha.2
  have h2 := hb.2
  rw [u64_xor_nat a b (by omega) (by omega)]
  have : a ^^^ b < 2 ^ 64 := Nat.xor_lt_two_pow (by omega) (by omega)
  exact ⟨by omega, by omega⟩
theorem W_or {a b : Int} (ha : W64 a) (hb : W64 b) : W64 (Go.bits .or .u64 a b) := by
  obtain ⟨a, rfl⟩ := Int.eq_ofNat_of_zero_le ha.1
  obtain ⟨b, rfl⟩ := Int.eq_ofNat_of_zero_le hb.1
  have h1 := ha.2
  have h2 := hb.2
  rw [u64_or_nat a b (by omega) (by omega)]
  have : a ||| b < 2 ^ 64 := Nat.or_lt_two_pow (by omega) (by omega)
  exact ⟨by omega, by omega⟩
theorem and32 (x : Int) (h : W64 x) : IntKind.u64.wrap (IntKind.u32.wrap x) = Go.bits .and .u64 x 4294967295 := by
  obtain ⟨x, rfl⟩ := Int.eq_ofNat_of_zero_le h.1
  have h2 := h.2
  have e := u64_and_nat x 4294967295 (by omega) (by omega)
  rw [show (4294967295 : Nat) = 2 ^ 32 - 1 by rfl, Nat.and_two_pow_sub_one_eq_mod] at e
  rw [IntKind.wrap_u32, IntKind.wrap_u64]
  refine Eq.trans ?_ e.symm
  omega
theorem zs_comm (s : Nat → Int) (a b : Nat) (x y : Int) (h : a ≠ b) : zs (zs s a x) b y = zs (zs s b y) a x := by
  unfold zs upd
  funext j
  by_cases h1 : j = a
  · subst h1
    rw [if_neg h, if_pos rfl, if_pos rfl, if_neg h]
  · by_cases h2 : j = b
    · subst h2
      rw [if_pos rfl, if_neg (Ne.symm h), if_neg h1, if_pos rfl]
    · rw [if_neg h2, if_neg h1, if_neg h1, if_neg h2]
theorem BS.zs {s : Nat → Int} (h : BS s) (t : Nat) (x : Int) : BS (zs s t x) := h.upd t _ (W_wrap _)
theorem BS.q1 {s : Nat → Int} (h : BS s) (i : Nat) (l : Int) : BS (q1 s i l) := h.upd _ _ (W_wrap _)
theorem BS.q2 {s : Nat → Int} (h : BS s) (i : Nat) (hi : i < 4) : BS (q2 s i) := h.upd _ _ (W_xor (h _ (by omega)) (W_wrap _))
theorem BS.q3 {s : Nat → Int} (h : BS s) (i : Nat) : BS (q3 s i) := h.upd _ _ (W_wrap _)
theorem BS.q4 {s : Nat → Int} (h : BS s) (i : Nat) (hi : i < 4) : BS (q4 s i) := h.upd _ _ (W_xor (h _ (by omega)) (W_wrap _))
theorem BS.qr {s : Nat → Int} (h : BS s) (i : Nat) (hi : i < 4) (l : Int) : BS (qr s i l) := (((h.q1 i l).q2 i hi).q3 i).q4 i hi
theorem BS.q5 {s : Nat → Int} (h : BS s) (f t i : Nat) : BS (q5 s f t i) := (h.zs _ _).zs _ _
theorem BS.US {s : Nat → Int} (h : BS s) (l : Nat → Int) : BS (US s l) := by
  unfold PAll.US
  exact (((((((h.qr 0 (by decide) _).qr 1 (by decide) _).qr 2 (by decide) _).qr 3 (by decide) _).q5 4 0 0).q5 4 0 2).q5 0 4 0).q5 0 4 2
theorem row0 (s : Nat → Int) (m : Int) (h : BS s) : u4 (u3 (u2 (u1 s m))) = qr s 0 m := by
  have e1 : u1 s m = q1 s 0 m := by
    unfold u1 q1
    rw [Int.add_comm m]
  have h1 := h.q1 0 m
  have e2 : u2 (q1 s 0 m) = q2 (q1 s 0 m) 0 := by
    generalize q1 s 0 m = s1 at h1 ⊢
    unfold u2 q2
    rw [and32 _ (h1 4 (by decide))]
  have h2 := h1.q2 0 (by decide)
  have e3 : u3 (q2 (q1 s 0 m) 0) = q3 (q2 (q1 s 0 m) 0) 0 := by
    generalize q2 (q1 s 0 m) 0 = s1
    rfl
  have h3 := h2.q3 0
  rw [e1, e2, e3]
  unfold qr
  generalize q3 (q2 (q1 s 0 m) 0) 0 = s1 at h3 ⊢
  unfold u4 q4
  rw [and32 _ (h3 0 (by decide))]
theorem row1 (s : Nat → Int) (m : Int) (h : BS s) : u8 (u7 (u6 (u5 s m))) = qr s 1 m := by
  have e1 : u5 s m = q1 s 1 m := by
    unfold u5 q1
    rw [Int.add_comm m]
  have h1 := h.q1 1 m
  have e2 : u6 (q1 s 1 m) = q2 (q1 s 1 m) 1 := by
    generalize q1 s 1 m = s1 at h1 ⊢
    unfold u6 q2
    rw [and32 _ (h1 5 (by decide))]
  have h2 := h1.q2 1 (by decide)
  have e3 : u7 (q2 (q1 s 1 m) 1) = q3 (q2 (q1 s 1 m) 1) 1 := by
    generalize q2 (q1 s 1 m) 1 = s1
    rfl
  have h3 := h2.q3 1
  rw [e1, e2, e3]
  unfold qr
  generalize q3 (q2 (q1 s 1 m) 1) 1 = s1 at h3 ⊢
  unfold u8 q4
  rw [and32 _ (h3 1 (by decide))]
theorem row2 (s : Nat → Int) (m : Int) (h : BS s) : u12 (u11 (u10 (u9 s m))) = qr s 2 m := by
  have e1 : u9 s m = q1 s 2 m := by
    unfold u9 q1
    rw [Int.add_comm m]
  have h1 := h.q1 2 m
  have e2 : u10 (q1 s 2 m) = q2 (q1 s 2 m) 2 := by
    generalize q1 s 2 m = s1 at h1 ⊢
    unfold u10 q2
    rw [and32 _ (h1 6 (by decide))]
  have h2 := h1.q2 2 (by decide)
  have e3 : u11 (q2 (q1 s 2 m) 2) = q3 (q2 (q1 s 2 m) 2) 2 := by
    generalize q2 (q1 s 2 m) 2 = s1
    rfl
  have h3 := h2.q3 2
  rw [e1, e2, e3]
  unfold qr
  generalize q3 (q2 (q1 s 2 m) 2) 2 = s1 at h3 ⊢
  unfold u12 q4
  rw [and32 _ (h3 2 (by decide))]
theorem row3 (s : Nat → Int) (m : Int) (h : BS s) : u16 (u15 (u14 (u13 s m))) = qr s 3 m := by
  have e1 : u13 s m = q1 s 3 m := by
    unfold u13 q1
    rw [Int.add_comm m]
  have h1 := h.q1 3 m
  have e2 : u14 (q1 s 3 m) = q2 (q1 s 3 m) 3 := by
    generalize q1 s 3 m = s1 at h1 ⊢
    unfold u14 q2
    rw [and32 _ (h1 7 (by decide))]
  have h2 := h1.q2 3 (by decide)
  have e3 : u15 (q2 (q1 s 3 m) 3) = q3 (q2 (q1 s 3 m) 3) 3 := by
    generalize q2 (q1 s 3 m) 3 = s1
    rfl
  have h3 := h2.q3 3
  rw [e1, e2, e3]
  unfold qr
  generalize q3 (q2 (q1 s 3 m) 3) 3 = s1 at h3 ⊢
  unfold u16 q4
  rw [and32 _ (h3 3 (by decide))]
theorem zip_q5 (s : Nat → Int) (h : BS s) (f t i : Nat) (hf : f + (i + 1) < 16) : zip2 s (f + i) (t + i) = q5 s f t i := by
  unfold zip2 q5
  have a0 := h (f + i) (by omega)
  have a1 := h (f + (i + 1)) hf
  rw [show f + i + 1 = f + (i + 1) by omega, show t + i + 1 = t + (i + 1) by omega]
  generalize s (f + i) = v0 at *
  generalize s (f + (i + 1)) = v1 at *
  rw [z11_law v0 v1 a0 a1, z12_law v0 v1 a0 a1, ← pLo_law v1 v0 a1 a0, ← pHi_law v1 v0 a1 a0]
  exact zs_comm s _ _ _ _ (by omega)
theorem U_law (s y l : Nat → Int) (h : BS s) (h0 : le8 (fun i => y (0 + i)) = l 0) (h1 : le8 (fun i => y (8 + i)) = l 1) (h2 : le8 (fun i => y (16 + i)) = l 2) (h3 : le8 (fun i => y (24 + i)) = l 3) : U s y = US s l := by
  unfold U US
  rw [h0, h1, h2, h3]
  have r0 := row0 s (l 0) h
  have b0 := h.qr 0 (by decide) (l 0)
  rw [r0]
  generalize qr s 0 (l 0) = s0 at b0 ⊢
  have r1 := row1 s0 (l 1) b0
  have b1 := b0.qr 1 (by decide) (l 1)
  rw [r1]
  generalize qr s0 1 (l 1) = s1 at b1 ⊢
  have r2 := row2 s1 (l 2) b1
  have b2 := b1.qr 2 (by decide) (l 2)
  rw [r2]
  generalize qr s1 2 (l 2) = s2 at b2 ⊢
  have r3 := row3 s2 (l 3) b2
  have b3 := b2.qr 3 (by decide) (l 3)
  rw [r3]
  generalize qr s2 3 (l 3) = s3 at b3 ⊢
  clear r0 r1 r2 r3 b0 b1 b2 h
  have e1 : zip2 s3 4 0 = q5 s3 4 0 0 := zip_q5 s3 b3 4 0 0 (by decide)
  have c1 := b3.q5 4 0 0
  rw [e1]
  generalize q5 s3 4 0 0 = t1 at c1 ⊢
  have e2 : zip2 t1 6 2 = q5 t1 4 0 2 := zip_q5 t1 c1 4 0 2 (by decide)
  have c2 := c1.q5 4 0 2
  rw [e2]
  generalize q5 t1 4 0 2 = t2 at c2 ⊢
  have e3 : zip2 t2 0 4 = q5 t2 0 4 0 := zip_q5 t2 c2 0 4 0 (by decide)
  have c3 := c2.q5 0 4 0
  rw [e3]
  generalize q5 t2 0 4 0 = t3 at c3 ⊢
  exact zip_q5 t3 c3 0 4 2 (by decide)
theorem U_lan (s y : Nat → Int) (h : BS s) (ho : Oct 32 y) : U s y = US s (lan y) := by
  refine U_law s y (lan y) h ?_ ?_ ?_ ?_
  · exact le8_law _ (fun i hi => ho (0 + i) (by omega))
  · exact le8_law _ (fun i hi => ho (8 + i) (by omega))
  · exact le8_law _ (fun i hi => ho (16 + i) (by omega))
  · exact le8_law _ (fun i hi => ho (24 + i) (by omega))
theorem le8_byt (v : Int) (h : W64 v) (x : Nat → Int) (hx : ∀ i, i < 8 → x i = byt v i) : le8 x = v := by
  rw [le8_law x (fun i hi => by rw [hx i hi]; exact byt_oct v i)]
  have e : N8 x = N8 (byt v) := by
    unfold N8
    rw [hx 0 (by decide), hx 1 (by decide), hx 2 (by decide), hx 3 (by decide), hx 4 (by decide), hx 5 (by decide), hx 6 (by decide), hx 7 (by decide)]
  rw [e, n8_byt v h]
theorem W_half {v : Int} (h : W64 v) : W64 (half v) := by
  unfold half
  refine W_or ?_ (W_wrap _)
  obtain ⟨h1, h2⟩ := h
  exact ⟨by omega, by omega⟩
theorem mix_law (s : Nat → Int) (h : BS s) : mix s = US s (own4 s) := by
  unfold mix
  refine U_law s (permB s) (own4 s) h ?_ ?_ ?_ ?_
  · refine le8_byt _ (W_half (h 2 (by decide))) _ (fun i hi => ?_)
    unfold permB
    rw [show (0 + i) / 8 = 0 by omega, show (0 + i) % 8 = i by omega]
    rfl
  · refine le8_byt _ (W_half (h 3 (by decide))) _ (fun i hi => ?_)
    unfold permB
    rw [show (8 + i) / 8 = 1 by omega, show (8 + i) % 8 = i by omega]
    rfl
  · refine le8_byt _ (W_half (h 0 (by decide))) _ (fun i hi => ?_)
    unfold permB
    rw [show (16 + i) / 8 = 2 by omega, show (16 + i) % 8 = i by omega]
    rfl
  · refine le8_byt _ (W_half (h 1 (by decide))) _ (fun i hi => ?_)
    unfold permB
    rw [show (24 + i) / 8 = 3 by omega, show (24 + i) % 8 = i by omega]
    rfl
theorem mixN_law (s : Nat → Int) (h : BS s) : ∀ k, mixN k s = mxS k s ∧ BS (mxS k s)
  | 0 => ⟨rfl, h⟩
  | k + 1 => by
    obtain ⟨h1, h2⟩ := mixN_law s h k
    refine ⟨?_, h2.US _⟩
    show mix (mixN k s) = _
    rw [h1]
    exact mix_law _ h2
theorem updN_law (s x : Nat → Int) (h : BS s) : ∀ k, Oct (k * 32) x → updN k s x = upsN k s x ∧ BS (upsN k s x)
  | 0, _ => ⟨rfl, h⟩
  | k + 1, ho => by
    obtain ⟨h1, h2⟩ := updN_law s x h k (fun i hi => ho i (by omega))
    refine ⟨?_, h2.US _⟩
    show U (updN k s x) (fun i => x (k * 32 + i)) = US (upsN k s x) (lan (fun i => x (k * 32 + i)))
    rw [h1]
    exact U_lan _ _ h2 (fun i hi => ho (k * 32 + i) (by omega))
end Go.Proofs.YtnehminojlocoaaDoor.PAll
namespace Go.Proofs.YtnehminojlocoaaDoor.PAll
open Go.RowKit Go.Proofs.YtnehminojlocoaaDoorW.PrintWords Go.Proofs.YtnehminojlocoaaDoorW.PrintLast Go.Proofs.YtnehminojlocoaaDoorW.PrintMore
set_option linter.unusedVariables false
set_option linter.unusedSimpArgs false
theorem lan_W (y : Nat → Int) (h : Oct 32 y) (i : Nat) (hi : i < 4) : W64 (lan y i) := by
  unfold lan N8
  dsimp only
  have h0 := h (8 * i + 0) (by omega)
  have h1 := h (8 * i + 1) (by omega)
  have h2 := h (8 * i + 2) (by omega)
  have h3 := h (8 * i + 3) (by omega)
  have h4 := h (8 * i + 4) (by omega)
  have h5 := h (8 * i + 5) (by omega)
  have h6 := h (8 * i + 6) (by omega)
  have h7 := h (8 * i + 7) (by omega)
  exact ⟨by omega, by omega⟩
theorem ini_law (y : Nat → Int) (h : Oct 32 y) : ini (keyN y) = newH (lan y) := by
  have hk : ∀ i, i < 4 → keyN y i = lan y i := fun i hi => le8_law _ (fun j hj => h (8 * i + j) (by omega))
  funext i
  unfold ini newH
  by_cases h1 : i < 4
  · rw [if_pos h1, if_pos h1, hk i h1]
  · by_cases h2 : i < 8
    · rw [if_neg h1, if_neg h1, if_pos h2, if_pos h2, hk (i - 4) (by omega)]
      rfl
    · rw [if_neg h1, if_neg h1, if_neg h2, if_neg h2]
theorem W_I0 (i : Nat) : W64 (I0 i) := by
  unfold I0
  split
  all_goals exact ⟨by decide, by decide⟩
theorem W_I1 (i : Nat) : W64 (I1 i) := by
  unfold I1
  split
  all_goals exact ⟨by decide, by decide⟩
theorem newH_BS (y : Nat → Int) (h : Oct 32 y) : BS (newH (lan y)) := fun i hi => by
  unfold newH
  split
  · next h1 => exact W_xor (W_I0 i) (lan_W y h i h1)
  · split
    · next h1 h2 => exact W_xor (W_I1 _) (W_half (lan_W y h (i - 4) (by omega)))
    · split
      · exact W_I0 _
      · exact W_I1 _
theorem tv_law (n : Nat) (hn : n < 32) (x : Int) : trn n x = tv x n := by
  unfold trn tv shl shr
  have e : wrap64 (32 - (n : Int)) = ((32 - n : Nat) : Int) := by
    unfold wrap64
    omega
  rw [e, Int.toNat_natCast, Int.toNat_natCast]
  simp [IntKind.bits]
theorem pre_law (n : Nat) (hn : n < 32) (s : Nat → Int) : pre n s = trR s n := by
  funext i
  unfold pre trR
  split
  · rfl
  · split
    · unfold trn2 rB
      rw [tv_law n hn, tv_law n hn]
    · rfl
theorem trR_BS (s : Nat → Int) (n : Nat) (h : BS s) : BS (trR s n) := fun i hi => by
  unfold trR
  split
  · exact W_wrap _
  · split
    · exact W_or (W_wrap _) (W_wrap _)
    · exact h i hi
theorem US_congr (s l l' : Nat → Int) (h : ∀ i, i < 4 → l i = l' i) : US s l = US s l' := by
  unfold US
  rw [h 0 (by decide), h 1 (by decide), h 2 (by decide), h 3 (by decide)]
theorem lan_congr (x x' : Nat → Int) (h : ∀ i, i < 32 → x i = x' i) (i : Nat) (hi : i < 4) : lan x i = lan x' i := by
  unfold lan N8
  dsimp only
  rw [h (8 * i + 0) (by omega), h (8 * i + 1) (by omega), h (8 * i + 2) (by omega), h (8 * i + 3) (by omega), h (8 * i + 4) (by omega), h (8 * i + 5) (by omega), h (8 * i + 6) (by omega), h (8 * i + 7) (by omega)]
theorem w32 (x : Int) (h0 : 0 ≤ x) (h1 : x < 4294967296) : IntKind.u32.wrap x = x := by
  rw [IntKind.wrap_u32]
  omega
theorem lastW_law (n : Nat) (x : Nat → Int) (a b c : Int) (ea : x (n / 4 * 4) = a) (eb : x (n / 4 * 4 + n % 4 / 2) = b) (ec : x (n - 1) = c) (ha : 0 ≤ a ∧ a < 256) (hb : 0 ≤ b ∧ b < 256) (hc : 0 ≤ c ∧ c < 256) : lastW n x = a + b * 256 + c * 65536 := by
  unfold lastW
  rw [ea, eb, ec, w32 a (by omega) (by omega), w32 b (by omega) (by omega), w32 c (by omega) (by omega), w32 (b * 256) (by omega) (by omega), w32 (c * 65536) (by omega) (by omega), w32 (a + b * 256) (by omega) (by omega), w32 _ (by omega) (by omega)]
theorem blk_law (n : Nat) (hn : n < 32) (h0 : 0 < n) (x : Nat → Int) (ho : Oct n x) (i : Nat) (hi : i < 32) : blk n (fun i => if i < n then x i else 0) i = rall n x i := by
  unfold blk rall
  by_cases h16 : 16 ≤ n
  · rw [if_pos h16, if_pos h16]
    unfold blkA
    dsimp only
    by_cases h28 : 28 ≤ i
    · rw [if_pos ⟨h28, by omega⟩, if_pos h28, if_pos (by omega)]
    · rw [if_neg (by omega), if_neg h28]
      by_cases hl : i < n / 4 * 4
      · rw [if_pos ⟨by omega, by omega⟩, if_pos hl, Nat.sub_zero, if_pos (by omega)]
      · rw [if_neg (by omega), if_neg hl]
  · rw [if_neg h16, if_neg h16]
    by_cases h4 : n % 4 = 0
    · rw [if_pos h4, if_pos h4]
      unfold blkC
      dsimp only
      by_cases hl : i < n / 4 * 4
      · rw [if_pos ⟨by omega, by omega⟩, if_pos hl, Nat.sub_zero, if_pos (by omega)]
      · rw [if_neg (by omega), if_neg hl]
    · rw [if_neg h4, if_neg h4]
      unfold blkB
      dsimp only
      have ha := ho (n / 4 * 4) (by omega)
      have hb := ho (n / 4 * 4 + n % 4 / 2) (by omega)
      have hc := ho (n - 1) (by omega)
      have e := lastW_law n (fun i => if i < n then x i else 0) _ _ _ (if_pos (by omega)) (if_pos (by omega)) (if_pos (by omega)) ha hb hc
      rw [e]
      have e1 : n / 4 * 4 + (n % 4 - 1) = n - 1 := by omega
      rw [e1]
      generalize x (n / 4 * 4) = a at *
      generalize x (n / 4 * 4 + n % 4 / 2) = b at *
      generalize x (n - 1) = c at *
      by_cases h1 : i = 16
      · subst h1
        rw [if_pos ⟨by decide, by decide⟩, if_pos rfl]
        show (a + b * 256 + c * 65536) % 256 = a
        omega
      · by_cases h2 : i = 17
        · subst h2
          rw [if_pos ⟨by decide, by decide⟩, if_neg (by decide), if_pos rfl]
          show (a + b * 256 + c * 65536) / 256 % 256 = b
          omega
        · by_cases h3 : i = 18
          · subst h3
            rw [if_pos ⟨by decide, by decide⟩, if_neg (by decide), if_neg (by decide), if_pos rfl]
            show (a + b * 256 + c * 65536) / 65536 % 256 = c
            omega
          · rw [if_neg h1, if_neg h2, if_neg h3]
            by_cases h5 : i = 19
            · subst h5
              rw [if_pos ⟨by decide, by decide⟩, if_neg (by omega)]
              show (a + b * 256 + c * 65536) / 16777216 % 256 = 0
              omega
            · rw [if_neg (by omega)]
              by_cases hl : i < n / 4 * 4
              · rw [if_pos ⟨by omega, by omega⟩, if_pos hl, Nat.sub_zero, if_pos (by omega)]
              · rw [if_neg (by omega), if_neg hl]
theorem hb_law (n : Nat) (hn : n < 32) (h0 : 0 < n) (s x : Nat → Int) (h : BS s) (ho : Oct n x) : hb n s (fun i => if i < n then x i else 0) = remS s n x := by
  unfold hb remS
  rw [pre_law n hn s]
  have hr := rall_oct n x hn ho
  have hb : Oct 32 (blk n (fun i => if i < n then x i else 0)) := fun i hi => by
    rw [blk_law n hn h0 x ho i hi]
    exact hr i hi
  rw [U_lan _ _ (trR_BS s n h) hb]
  exact US_congr _ _ _ (fun i hi => lan_congr _ _ (fun j hj => blk_law n hn h0 x ho j hj) i hi)
theorem hv_law (y x : Nat → Int) (n : Nat) (hy : Oct 32 y) (hx : Oct n x) : hvS y x n = hwS y x n ∧ BS (hwS y x n) := by
  unfold hvS hwS
  have hb0 := newH_BS y hy
  rw [ini_law y hy]
  obtain ⟨h1, h2⟩ := updN_law (newH (lan y)) x hb0 (n / 32) (fun i hi => hx i (by omega))
  rw [h1]
  by_cases hr : n % 32 = 0
  · rw [if_pos hr, if_pos hr]
    exact ⟨rfl, h2⟩
  · rw [if_neg hr, if_neg hr]
    refine ⟨hb_law (n % 32) (by omega) (by omega) _ (fun i => x (n / 32 * 32 + i)) h2 (fun i hi => hx _ (by omega)), ?_⟩
    exact (trR_BS _ _ h2).US _
end Go.Proofs.YtnehminojlocoaaDoor.PAll
namespace Go.Proofs.YtnehminojlocoaaDoor.PAll
open Go.RowKit Go.Proofs.YtnehminojlocoaaDoorW.PrintWords Go.Proofs.YtnehminojlocoaaDoorW.PrintLast Go.Proofs.YtnehminojlocoaaDoorW.PrintMore
set_option linter.unusedVariables false
set_option linter.unusedSimpArgs false
theorem hw8_byt (v : Int) : hw8 v = [byt v 0, byt v 1, byt v 2, byt v 3, byt v 4, byt v 5, byt v 6, byt v 7] := by
  unfold hw8
  show _ = [v % 256, v / 256 % 256, v / 65536 % 256, v / 16777216 % 256, v / 4294967296 % 256, v / 1099511627776 % 256, v / 281474976710656 % 256, v / 72057594037927936 % 256]
  simp only [List.cons.injEq, and_true]
  refine ⟨trivial, trivial, ?_, ?_, ?_, ?_, ?_, ?_⟩
  all_goals omega
theorem low_byt (v : Int) : (List.range 8).map (lowL v) = [byt v 0, byt v 1, byt v 2, byt v 3, byt v 4, byt v 5, byt v 6, byt v 7] := by
  show [lowL v 0, lowL v 1, lowL v 2, lowL v 3, lowL v 4, lowL v 5, lowL v 6, lowL v 7] = _
  unfold lowL
  simp only [IntKind.wrap_u8]
  show [v / 1 % 256, v / 256 % 256, v / 65536 % 256, v / 16777216 % 256, v / 4294967296 % 256, v / 1099511627776 % 256, v / 281474976710656 % 256, v / 72057594037927936 % 256] = _
  rw [Int.ediv_one]
  rfl
theorem fB16_list (s : Nat → Int) : (List.range 16).map (fB (fin16 s)) = hw8 (add4 s 0 6 8 14) ++ hw8 (add4 s 1 7 9 15) := by
  rw [hw8_byt, hw8_byt]
  rfl
theorem fB32_list (s : Nat → Int) : (List.range 32).map (fB (fin32 s)) = hw8 (red0 (add2 s 0 8) (add2 s 1 9) (add2 s 4 12) (add2 s 5 13)) ++ hw8 (red1 (add2 s 0 8) (add2 s 1 9) (add2 s 4 12) (add2 s 5 13)) ++ hw8 (red0 (add2 s 2 10) (add2 s 3 11) (add2 s 6 14) (add2 s 7 15)) ++ hw8 (red1 (add2 s 2 10) (add2 s 3 11) (add2 s 6 14) (add2 s 7 15)) := by
  rw [hw8_byt, hw8_byt, hw8_byt, hw8_byt]
  rfl
theorem xor_c {a b : Int} (ha : W64 a) (hb : W64 b) : Go.bits .xor .u64 a b = Go.bits .xor .u64 b a := by
  obtain ⟨a, rfl⟩ := Int.eq_ofNat_of_zero_le ha.1
  obtain ⟨b, rfl⟩ := Int.eq_ofNat_of_zero_le hb.1
  have h1 := ha.2
  have h2 := hb.2
  rw [u64_xor_nat a b (by omega) (by omega), u64_xor_nat b a (by omega) (by omega), Nat.xor_comm]
theorem W_add2 (s : Nat → Int) (i j : Nat) : W64 (add2 s i j) := W_wrap _
theorem red0_law (a0 a1 a2 a3 : Int) (h0 : W64 a0) (h2 : W64 a2) : red0 a0 a1 a2 a3 = rLo a3 a2 a1 a0 := by
  show Go.bits .xor .u64 (IntKind.u64.wrap (a2 * 4)) (Go.bits .xor .u64 a0 (IntKind.u64.wrap (a2 * 2))) = Go.bits .xor .u64 (Go.bits .xor .u64 a0 (IntKind.u64.wrap (a2 * 2))) (IntKind.u64.wrap (a2 * 4))
  exact xor_c (W_wrap _) (W_xor h0 (W_wrap _))
theorem W_div {a : Int} (h : W64 a) (q : Int) (hq : 0 ≤ q) : W64 (a / q) := ⟨Int.ediv_nonneg h.1 hq, Int.lt_of_le_of_lt (Int.ediv_le_self _ h.1) h.2⟩
theorem red1_law (a0 a1 a2 a3 : Int) (h1 : W64 a1) (h2 : W64 a2) : red1 a0 a1 a2 a3 = rHi a3 a2 a1 a0 := by
  show Go.bits .xor .u64 (Go.bits .or .u64 (IntKind.u64.wrap ((Go.bits .and .u64 a3 4611686018427387903) * 4)) (a2 / 4611686018427387904)) (Go.bits .xor .u64 a1 (Go.bits .or .u64 (IntKind.u64.wrap ((Go.bits .and .u64 a3 4611686018427387903) * 2)) (a2 / 9223372036854775808))) = Go.bits .xor .u64 (Go.bits .xor .u64 a1 (Go.bits .or .u64 (IntKind.u64.wrap ((Go.bits .and .u64 a3 4611686018427387903) * 2)) (a2 / 9223372036854775808))) (Go.bits .or .u64 (IntKind.u64.wrap ((Go.bits .and .u64 a3 4611686018427387903) * 4)) (a2 / 4611686018427387904))
  exact xor_c (W_or (W_wrap _) (W_div h2 _ (by decide))) (W_xor h1 (W_or (W_wrap _) (W_div h2 _ (by decide))))
theorem add4_c (s : Nat → Int) (i j k l : Nat) : add4 s i j k l = pl (pl (pl (s i) (s k)) (s j)) (s l) := by
  unfold add4 pl
  simp only [IntKind.wrap_u64]
  omega
theorem sum_law (sz : Int) (S : Nat → Int) (h : BS S) : sumS sz S = outS sz S := by
  unfold sumS outS
  split
  · rw [(mixN_law S h 4).1]
    unfold out8
    have e : add4 (mxS 4 S) 0 4 8 12 = pl (pl (pl (mxS 4 S 0) (mxS 4 S 4)) (mxS 4 S 8)) (mxS 4 S 12) := rfl
    rw [e]
    have hw : W64 (pl (pl (pl (mxS 4 S 0) (mxS 4 S 4)) (mxS 4 S 8)) (mxS 4 S 12)) := W_wrap _
    rw [le8_byt _ hw _ (fun i hi => rfl), low_byt, hw8_byt]
  · split
    · rw [(mixN_law S h 6).1, fB16_list, add4_c, add4_c]
      rfl
    · rw [(mixN_law S h 10).1, fB32_list]
      rw [red0_law _ _ _ _ (W_add2 _ _ _) (W_add2 _ _ _), red0_law _ _ _ _ (W_add2 _ _ _) (W_add2 _ _ _), red1_law _ _ _ _ (W_add2 _ _ _) (W_add2 _ _ _), red1_law _ _ _ _ (W_add2 _ _ _) (W_add2 _ _ _)]
      rfl
end Go.Proofs.YtnehminojlocoaaDoor.PAll
