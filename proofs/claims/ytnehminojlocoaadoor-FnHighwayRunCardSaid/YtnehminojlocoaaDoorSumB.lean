/- SumB: HvFin, HvCopy, HvIni, HvHb, HvHb2. -/
import Derived.Test.YtnehminojlocoaaDoorSumA
namespace Go.Proofs.YtnehminojlocoaaDoor.PAll
open Go.RowKit Go.Proofs.YtnehminojlocoaaDoorW.PrintWords Go.Proofs.YtnehminojlocoaaDoorW.PrintLast Go.Proofs.YtnehminojlocoaaDoorW.PrintMore
set_option linter.unusedVariables false
set_option linter.unusedSimpArgs false
/-- A number's halves, exchanged. -/
def rot32 (v : Int) : Int := Go.bits .or .u64 (v / 4294967296) (IntKind.u64.wrap (v * 4294967296))
/-- Which number is turned and taken in at place j. -/
def perm (s : Nat → Int) : Nat → Int
  | 0 => rot32 (s 2)
  | 1 => rot32 (s 3)
  | 2 => rot32 (s 0)
  | _ => rot32 (s 1)
def permB (s : Nat → Int) (i : Nat) : Int := byt (perm s (i / 8)) (i % 8)
/-- A state takes in its own numbers, turned. -/
def mix (s : Nat → Int) : Nat → Int := U s (permB s)
def mixN : Nat → (Nat → Int) → Nat → Int
  | 0, s => s
  | k + 1, s => mix (mixN k s)
theorem put4 (m : Nat → Value) (s : Nat → Int) (i : Nat) (hi : i < 32) : putB (putB (putB (putB m 0 (perm s 0)) 8 (perm s 1)) 16 (perm s 2)) 24 (perm s 3) i = .int .u8 (permB s i) := by
  unfold putB permB
  by_cases h3 : 24 ≤ i
  · rw [if_pos (by omega), show i / 8 = 3 by omega, show i % 8 = i - 24 by omega]
  · rw [if_neg (by omega)]
    by_cases h2 : 16 ≤ i
    · rw [if_pos (by omega), show i / 8 = 2 by omega, show i % 8 = i - 16 by omega]
    · rw [if_neg (by omega)]
      by_cases h1 : 8 ≤ i
      · rw [if_pos (by omega), show i / 8 = 1 by omega, show i % 8 = i - 8 by omega]
      · rw [if_neg (by omega), if_pos (by omega), show i / 8 = 0 by omega, show i % 8 = i - 0 by omega]
noncomputable def finLoop : Code := match Tryd.f49.body with
  | some (.seq _ (.seq _ (.seq _ (.seq _ (.seq (.seq _ (.block _ (.loop c))) _))))) => c
  | _ => .skip
noncomputable def finEnd : Code := match Tryd.f49.body with
  | some (.seq _ (.seq _ (.seq _ (.seq _ (.seq _ c))))) => c
  | _ => .skip
set_option maxHeartbeats 8000000 in
set_option maxRecDepth 100000 in
theorem fin_round (X : List Bl) (g T p Tp t Tt k q : Nat) (x0 : SV) (β : Nat → Nat) (s : Nat → Int) (m pm tm : Nat → Value) (w : World) (a : Act) (K : Act → World → Prop) (Q0 : Exit → Act → World → Prop) (hqk : q < k) (hk : k < 100)
    (hM : Mw β (⟨g, T, 16, stm s m⟩ :: ⟨p, Tp, 4, pm⟩ :: ⟨t, Tt, 32, tm⟩ :: X) w) (hA : Has 267 β [(0, x0), (1, .p 0 0), (4, .p 1 0), (5, .p 2 0), (6, .v (.int .i64 (k : Int))), (7, .v (.int .i64 (q : Int)))] a) (hQ : ∀ c (a a' : Act) w, a'.defers = a.defers → Q0 (.panic c) a w → Q0 (.panic c) a' w)
    (hK : ∀ a' W' pm' tm', Has 267 β [(0, x0), (1, .p 0 0), (4, .p 1 0), (5, .p 2 0), (6, .v (.int .i64 (k : Int))), (7, .v (.int .i64 ((q + 1 : Nat) : Int)))] a' → a'.defers = a.defers → Mw β (⟨g, T, 16, stm (mix s) m⟩ :: ⟨p, Tp, 4, pm'⟩ :: ⟨t, Tt, 32, tm'⟩ :: X) W' → Fr [g, p, t] w W' → K a' W') :
    Code.wp Tryd.prog finLoop (Exit.then K Q0) a w := by
  have F0 := Fr.refl [g, p, t] w
  obtain ⟨rfl, hM0⟩ := id hM
  refine wp_seq ?_
  refine wp_seq ?_
  refine regM_seq (N := 267) (T := TT) (n := 3) (E2 := [(0, x0), (1, .p 0 0), (4, .p 1 0), (5, .p 2 0), (6, .v (.int .i64 (k : Int))), (7, .v (.int .i64 (q : Int))), (18, .v (.bool (decide ((q : Int) < (k : Int)))))]) tabOk hA hM rfl (by kernel_rfl) ⟨by kernel_rfl, by kernel_rfl, by kernel_rfl, by kernel_rfl, by kernel_rfl, by kernel_rfl, by kernel_rfl, trivial⟩ (fun a0 h0 d0 => ?_)
  show Code.wp _ _ _ _ _
  have ht : a0.eval (.tmp 18) = .bool true := (h0.2 18 _ rfl).trans (congrArg Value.bool (decide_eq_true (by omega)))
  refine wp_cond_true ht (wp_skip ?_)
  show Code.wp _ _ _ _ _
  refine wp_seq ?_
  refine wp_block ?_
  refine wp_seq ?_
  refine regM_store (N := 267) (T := TT) (n := 12) (k := 1) (i := 0) (u := .int .u64 (rot32 (s 2))) (E2 := [(0, x0), (1, .p 0 0), (4, .p 1 0), (5, .p 2 0), (6, .v (.int .i64 (k : Int))), (7, .v (.int .i64 (q : Int)))]) (by kernel_rfl) tabOk h0 hM rfl (by kernel_rfl) (by kernel_rfl) rfl ⟨by kernel_rfl, by kernel_rfl, by kernel_rfl, by kernel_rfl, by kernel_rfl, by kernel_rfl, trivial⟩ (fun c a a' w hd h => hQ c a a' w hd h) (fun a1 W1 h1 d1 M1 G1 => ?_)
  show Code.wp _ _ _ _ _
  replace d1 := d1.trans d0
  have F1 := Fr.comp F0 G1 (by intro k hk; left; simp at hk; subst hk; simp [bg])
  clear h0 F0 G1 d0
  refine wp_seq ?_
  refine regM_store (N := 267) (T := TT) (n := 12) (k := 1) (i := 1) (u := .int .u64 (rot32 (s 3))) (E2 := [(0, x0), (1, .p 0 0), (4, .p 1 0), (5, .p 2 0), (6, .v (.int .i64 (k : Int))), (7, .v (.int .i64 (q : Int)))]) (by kernel_rfl) tabOk h1 M1 rfl (by kernel_rfl) (by kernel_rfl) rfl ⟨by kernel_rfl, by kernel_rfl, by kernel_rfl, by kernel_rfl, by kernel_rfl, by kernel_rfl, trivial⟩ (fun c a a' w hd h => hQ c a a' w hd h) (fun a2 W2 h2 d2 M2 G2 => ?_)
  show Code.wp _ _ _ _ _
  replace d2 := d2.trans d1
  have F2 := Fr.comp F1 G2 (by intro k hk; left; simp at hk; subst hk; simp [bg])
  clear h1 F1 G2 d1
  clear M1
  refine wp_seq ?_
  refine regM_store (N := 267) (T := TT) (n := 12) (k := 1) (i := 2) (u := .int .u64 (rot32 (s 0))) (E2 := [(0, x0), (1, .p 0 0), (4, .p 1 0), (5, .p 2 0), (6, .v (.int .i64 (k : Int))), (7, .v (.int .i64 (q : Int)))]) (by kernel_rfl) tabOk h2 M2 rfl (by kernel_rfl) (by kernel_rfl) rfl ⟨by kernel_rfl, by kernel_rfl, by kernel_rfl, by kernel_rfl, by kernel_rfl, by kernel_rfl, trivial⟩ (fun c a a' w hd h => hQ c a a' w hd h) (fun a3 W3 h3 d3 M3 G3 => ?_)
  show Code.wp _ _ _ _ _
  replace d3 := d3.trans d2
  have F3 := Fr.comp F2 G3 (by intro k hk; left; simp at hk; subst hk; simp [bg])
  clear h2 F2 G3 d2
  clear M2
  refine wp_seq ?_
  refine regM_store (N := 267) (T := TT) (n := 12) (k := 1) (i := 3) (u := .int .u64 (rot32 (s 1))) (E2 := [(0, x0), (1, .p 0 0), (4, .p 1 0), (5, .p 2 0), (6, .v (.int .i64 (k : Int))), (7, .v (.int .i64 (q : Int)))]) (by kernel_rfl) tabOk h3 M3 rfl (by kernel_rfl) (by kernel_rfl) rfl ⟨by kernel_rfl, by kernel_rfl, by kernel_rfl, by kernel_rfl, by kernel_rfl, by kernel_rfl, trivial⟩ (fun c a a' w hd h => hQ c a a' w hd h) (fun a4 W4 h4 d4 M4 G4 => ?_)
  show Code.wp _ _ _ _ _
  replace d4 := d4.trans d3
  have F4 := Fr.comp F3 G4 (by intro k hk; left; simp at hk; subst hk; simp [bg])
  clear h3 F3 G4 d3
  clear M3
  replace M4 : Mw _ (⟨g, T, 16, stm s m⟩ :: ⟨p, Tp, 4, (upm (upm (upm (upm pm 0 (.int .u64 (rot32 (s 2)))) 1 (.int .u64 (rot32 (s 3)))) 2 (.int .u64 (rot32 (s 0)))) 3 (.int .u64 (rot32 (s 1))))⟩ :: ⟨t, Tt, 32, tm⟩ :: X) W4 := M4
  refine wp_seq ?_
  have P5 := put_bl (M4.drew.2.get (k := 2) rfl) 0 32 32 (perm s 0) (by decide) (by show 8 ≤ 32; decide)
  refine reg_call_last (N := 267) (T := TT) (j := 4) (l1 := [0, 1, 2, 3]) (f := 51) (d := 73) (args := [.v (.agg #[]), .s 2 0 32 32, .v (.int .u64 (perm s 0))]) (E2 := [(0, x0), (1, .p 0 0), (4, .p 1 0), (5, .p 2 0), (6, .v (.int .i64 (k : Int))), (7, .v (.int .i64 (q : Int)))]) (by kernel_rfl) tabOk h4 M4.mem rfl (by kernel_rfl) (by kernel_rfl) Tryd.func51 rfl rfl (fun v W' => Mw (bg (⟨g, T, 16, stm s m⟩ :: ⟨p, Tp, 4, pm⟩ :: ⟨t, Tt, 32, tm⟩ :: X)) (⟨g, T, 16, stm s m⟩ :: ⟨p, Tp, 4, (upm (upm (upm (upm pm 0 (.int .u64 (rot32 (s 2)))) 1 (.int .u64 (rot32 (s 3)))) 2 (.int .u64 (rot32 (s 0)))) 3 (.int .u64 (rot32 (s 1))))⟩ :: ⟨t, Tt, 32, (putB tm 0 (perm s 0))⟩ :: X) W' ∧ Fr [t] W4 W')
    (P5.mono fun e W' hh => ⟨_, hh.1, (M4.drew.rep 2 rfl hh.2.2 hh.2.1 : Mw _ (bset _ 2 _) W'), hh.2.2⟩) ⟨by kernel_rfl, by kernel_rfl, by kernel_rfl, by kernel_rfl, by kernel_rfl, by kernel_rfl, trivial⟩ rfl (fun c a a' w hd h => hQ c a a' w hd h) (fun a5 v5 W5 h5 d5 hR5 => ?_)
  show Code.wp _ _ _ _ _
  obtain ⟨M5, G5⟩ := hR5
  replace d5 := d5.trans d4
  have F5 := Fr.comp F4 G5 (by intro k hk; left; simp at hk; subst hk; simp)
  replace h5 := sub_ok (E := [(0, x0), (1, .p 0 0), (4, .p 1 0), (5, .p 2 0), (6, .v (.int .i64 (k : Int))), (7, .v (.int .i64 (q : Int)))]) h5 ⟨by kernel_rfl, by kernel_rfl, by kernel_rfl, by kernel_rfl, by kernel_rfl, by kernel_rfl, trivial⟩
  clear h4 F4 G5 d4 M4 P5
  refine wp_seq ?_
  have P6 := put_bl (M5.drew.2.get (k := 2) rfl) 8 24 24 (perm s 1) (by decide) (by show 16 ≤ 32; decide)
  refine reg_call_last (N := 267) (T := TT) (j := 4) (l1 := [0, 1, 2, 3]) (f := 51) (d := 78) (args := [.v (.agg #[]), .s 2 8 24 24, .v (.int .u64 (perm s 1))]) (E2 := [(0, x0), (1, .p 0 0), (4, .p 1 0), (5, .p 2 0), (6, .v (.int .i64 (k : Int))), (7, .v (.int .i64 (q : Int)))]) (by kernel_rfl) tabOk h5 M5.mem rfl (by kernel_rfl) (by kernel_rfl) Tryd.func51 rfl rfl (fun v W' => Mw (bg (⟨g, T, 16, stm s m⟩ :: ⟨p, Tp, 4, pm⟩ :: ⟨t, Tt, 32, tm⟩ :: X)) (⟨g, T, 16, stm s m⟩ :: ⟨p, Tp, 4, (upm (upm (upm (upm pm 0 (.int .u64 (rot32 (s 2)))) 1 (.int .u64 (rot32 (s 3)))) 2 (.int .u64 (rot32 (s 0)))) 3 (.int .u64 (rot32 (s 1))))⟩ :: ⟨t, Tt, 32, (putB (putB tm 0 (perm s 0)) 8 (perm s 1))⟩ :: X) W' ∧ Fr [t] W5 W')
    (P6.mono fun e W' hh => ⟨_, hh.1, (M5.drew.rep 2 rfl hh.2.2 hh.2.1 : Mw _ (bset _ 2 _) W'), hh.2.2⟩) ⟨by kernel_rfl, by kernel_rfl, by kernel_rfl, by kernel_rfl, by kernel_rfl, by kernel_rfl, trivial⟩ rfl (fun c a a' w hd h => hQ c a a' w hd h) (fun a6 v6 W6 h6 d6 hR6 => ?_)
  show Code.wp _ _ _ _ _
  obtain ⟨M6, G6⟩ := hR6
  replace d6 := d6.trans d5
  have F6 := Fr.comp F5 G6 (by intro k hk; left; simp at hk; subst hk; simp)
  replace h6 := sub_ok (E := [(0, x0), (1, .p 0 0), (4, .p 1 0), (5, .p 2 0), (6, .v (.int .i64 (k : Int))), (7, .v (.int .i64 (q : Int)))]) h6 ⟨by kernel_rfl, by kernel_rfl, by kernel_rfl, by kernel_rfl, by kernel_rfl, by kernel_rfl, trivial⟩
  clear h5 F5 G6 d5 M5 P6
  refine wp_seq ?_
  have P7 := put_bl (M6.drew.2.get (k := 2) rfl) 16 16 16 (perm s 2) (by decide) (by show 24 ≤ 32; decide)
  refine reg_call_last (N := 267) (T := TT) (j := 4) (l1 := [0, 1, 2, 3]) (f := 51) (d := 83) (args := [.v (.agg #[]), .s 2 16 16 16, .v (.int .u64 (perm s 2))]) (E2 := [(0, x0), (1, .p 0 0), (4, .p 1 0), (5, .p 2 0), (6, .v (.int .i64 (k : Int))), (7, .v (.int .i64 (q : Int)))]) (by kernel_rfl) tabOk h6 M6.mem rfl (by kernel_rfl) (by kernel_rfl) Tryd.func51 rfl rfl (fun v W' => Mw (bg (⟨g, T, 16, stm s m⟩ :: ⟨p, Tp, 4, pm⟩ :: ⟨t, Tt, 32, tm⟩ :: X)) (⟨g, T, 16, stm s m⟩ :: ⟨p, Tp, 4, (upm (upm (upm (upm pm 0 (.int .u64 (rot32 (s 2)))) 1 (.int .u64 (rot32 (s 3)))) 2 (.int .u64 (rot32 (s 0)))) 3 (.int .u64 (rot32 (s 1))))⟩ :: ⟨t, Tt, 32, (putB (putB (putB tm 0 (perm s 0)) 8 (perm s 1)) 16 (perm s 2))⟩ :: X) W' ∧ Fr [t] W6 W')
    (P7.mono fun e W' hh => ⟨_, hh.1, (M6.drew.rep 2 rfl hh.2.2 hh.2.1 : Mw _ (bset _ 2 _) W'), hh.2.2⟩) ⟨by kernel_rfl, by kernel_rfl, by kernel_rfl, by kernel_rfl, by kernel_rfl, by kernel_rfl, trivial⟩ rfl (fun c a a' w hd h => hQ c a a' w hd h) (fun a7 v7 W7 h7 d7 hR7 => ?_)
  show Code.wp _ _ _ _ _
  obtain ⟨M7, G7⟩ := hR7
  replace d7 := d7.trans d6
  have F7 := Fr.comp F6 G7 (by intro k hk; left; simp at hk; subst hk; simp)
  replace h7 := sub_ok (E := [(0, x0), (1, .p 0 0), (4, .p 1 0), (5, .p 2 0), (6, .v (.int .i64 (k : Int))), (7, .v (.int .i64 (q : Int)))]) h7 ⟨by kernel_rfl, by kernel_rfl, by kernel_rfl, by kernel_rfl, by kernel_rfl, by kernel_rfl, trivial⟩
  clear h6 F6 G7 d6 M6 P7
  refine wp_seq ?_
  have P8 := put_bl (M7.drew.2.get (k := 2) rfl) 24 8 8 (perm s 3) (by decide) (by show 32 ≤ 32; decide)
  refine reg_call_last (N := 267) (T := TT) (j := 4) (l1 := [0, 1, 2, 3]) (f := 51) (d := 88) (args := [.v (.agg #[]), .s 2 24 8 8, .v (.int .u64 (perm s 3))]) (E2 := [(0, x0), (1, .p 0 0), (4, .p 1 0), (5, .p 2 0), (6, .v (.int .i64 (k : Int))), (7, .v (.int .i64 (q : Int)))]) (by kernel_rfl) tabOk h7 M7.mem rfl (by kernel_rfl) (by kernel_rfl) Tryd.func51 rfl rfl (fun v W' => Mw (bg (⟨g, T, 16, stm s m⟩ :: ⟨p, Tp, 4, pm⟩ :: ⟨t, Tt, 32, tm⟩ :: X)) (⟨g, T, 16, stm s m⟩ :: ⟨p, Tp, 4, (upm (upm (upm (upm pm 0 (.int .u64 (rot32 (s 2)))) 1 (.int .u64 (rot32 (s 3)))) 2 (.int .u64 (rot32 (s 0)))) 3 (.int .u64 (rot32 (s 1))))⟩ :: ⟨t, Tt, 32, (putB (putB (putB (putB tm 0 (perm s 0)) 8 (perm s 1)) 16 (perm s 2)) 24 (perm s 3))⟩ :: X) W' ∧ Fr [t] W7 W')
    (P8.mono fun e W' hh => ⟨_, hh.1, (M7.drew.rep 2 rfl hh.2.2 hh.2.1 : Mw _ (bset _ 2 _) W'), hh.2.2⟩) ⟨by kernel_rfl, by kernel_rfl, by kernel_rfl, by kernel_rfl, by kernel_rfl, by kernel_rfl, trivial⟩ rfl (fun c a a' w hd h => hQ c a a' w hd h) (fun a8 v8 W8 h8 d8 hR8 => ?_)
  show Code.wp _ _ _ _ _
  obtain ⟨M8, G8⟩ := hR8
  replace d8 := d8.trans d7
  have F8 := Fr.comp F7 G8 (by intro k hk; left; simp at hk; subst hk; simp)
  replace h8 := sub_ok (E := [(0, x0), (1, .p 0 0), (4, .p 1 0), (5, .p 2 0), (6, .v (.int .i64 (k : Int))), (7, .v (.int .i64 (q : Int)))]) h8 ⟨by kernel_rfl, by kernel_rfl, by kernel_rfl, by kernel_rfl, by kernel_rfl, by kernel_rfl, trivial⟩
  clear h7 F7 G8 d7 M7 P8
  have hB8 : Bts t 0 32 (permB s) W8 := fun i hi => by
    rw [Nat.zero_add, (M8.2.get (k := 2) rfl).cell i hi]
    exact congrArg some (put4 tm s i hi)
  have P9 := update_walk g T (tl 16 m) s t 0 32 32 (permB s) W8 ((M8.2.get (k := 0) rfl).st (Nat.le_refl 16)) (Or.inl (M8.2.2.1 _ (.tail _ (.head _)))) (by decide) hB8
  refine regM_seq_call (N := 267) (T := TT) (n := 2) (f := 40) (d := 91) (args := [.p 0 0, .s 2 0 32 32]) (E2 := [(0, x0), (1, .p 0 0), (4, .p 1 0), (5, .p 2 0), (6, .v (.int .i64 (k : Int))), (7, .v (.int .i64 (q : Int)))]) tabOk h8 M8 rfl (by kernel_rfl) Tryd.func40 rfl rfl (fun v W' => Mw (bg (⟨g, T, 16, stm s m⟩ :: ⟨p, Tp, 4, pm⟩ :: ⟨t, Tt, 32, tm⟩ :: X)) (⟨g, T, 16, stm (mix s) m⟩ :: ⟨p, Tp, 4, (upm (upm (upm (upm pm 0 (.int .u64 (rot32 (s 2)))) 1 (.int .u64 (rot32 (s 3)))) 2 (.int .u64 (rot32 (s 0)))) 3 (.int .u64 (rot32 (s 1))))⟩ :: ⟨t, Tt, 32, (putB (putB (putB (putB tm 0 (perm s 0)) 8 (perm s 1)) 16 (perm s 2)) 24 (perm s 3))⟩ :: X) W' ∧ Fr [g] W8 W')
    (P9.mono fun e W' hh => ⟨_, hh.1, (M8.rep 0 rfl hh.2.2 (St.bl (s := mix s) hh.2.1 (Nat.le_refl 16)) : Mw _ (bset _ 0 _) W'), hh.2.2⟩) ⟨by kernel_rfl, by kernel_rfl, by kernel_rfl, by kernel_rfl, by kernel_rfl, by kernel_rfl, trivial⟩ rfl (fun a9 v9 W9 h9 d9 hR9 => ?_)
  obtain ⟨M9, G9⟩ := hR9
  have F9 := Fr.comp F8 G9 (by intro k hk; left; simp at hk; subst hk; simp)
  replace h9 := sub_ok (E := [(0, x0), (1, .p 0 0), (4, .p 1 0), (5, .p 2 0), (6, .v (.int .i64 (k : Int))), (7, .v (.int .i64 (q : Int)))]) h9 ⟨by kernel_rfl, by kernel_rfl, by kernel_rfl, by kernel_rfl, by kernel_rfl, by kernel_rfl, trivial⟩
  replace d9 := d9.trans d8
  show Code.wp _ _ _ _ _
  have hw : IntKind.i64.wrap ((q : Int) + 1) = ((q + 1 : Nat) : Int) := by
    rw [i64_w]
    unfold wrap64
    omega
  refine regM_seq (N := 267) (T := TT) (n := 3) (E2 := [(0, x0), (1, .p 0 0), (4, .p 1 0), (5, .p 2 0), (6, .v (.int .i64 (k : Int))), (7, .v (.int .i64 (IntKind.i64.wrap ((q : Int) + 1))))]) tabOk h9 M9 rfl (by kernel_rfl) ⟨by kernel_rfl, by kernel_rfl, by kernel_rfl, by kernel_rfl, by kernel_rfl, by kernel_rfl, trivial⟩ (fun a10 h10 d10 => ?_)
  rw [hw] at h10
  exact hK a10 W9 _ _ h10 (d10.trans d9) M9 F9
/-- The block in which a hash of 8, 16 or 32 octets is written. -/
def add4 (s : Nat → Int) (i j k l : Nat) : Int := IntKind.u64.wrap (IntKind.u64.wrap (IntKind.u64.wrap (s i + s j) + s k) + s l)
def add2 (s : Nat → Int) (i j : Nat) : Int := IntKind.u64.wrap (s i + s j)
def red0 (a0 a1 a2 a3 : Int) : Int := Go.bits .xor .u64 (IntKind.u64.wrap (a2 * 4)) (Go.bits .xor .u64 a0 (IntKind.u64.wrap (a2 * 2)))
def red1 (a0 a1 a2 a3 : Int) : Int := Go.bits .xor .u64 (Go.bits .or .u64 (IntKind.u64.wrap ((Go.bits .and .u64 a3 4611686018427387903) * 4)) (a2 / 4611686018427387904)) (Go.bits .xor .u64 a1 (Go.bits .or .u64 (IntKind.u64.wrap ((Go.bits .and .u64 a3 4611686018427387903) * 2)) (a2 / 9223372036854775808)))
def fin8 (s : Nat → Int) (m : Nat → Value) : Nat → Value := putB m 0 (add4 s 0 4 8 12)
def fin16 (s : Nat → Int) (m : Nat → Value) : Nat → Value := putB (putB m 0 (add4 s 0 6 8 14)) 8 (add4 s 1 7 9 15)
def fin32 (s : Nat → Int) (m : Nat → Value) : Nat → Value := putB (putB (putB (putB m 0 (red0 (add2 s 0 8) (add2 s 1 9) (add2 s 4 12) (add2 s 5 13))) 8 (red1 (add2 s 0 8) (add2 s 1 9) (add2 s 4 12) (add2 s 5 13))) 16 (red0 (add2 s 2 10) (add2 s 3 11) (add2 s 6 14) (add2 s 7 15))) 24 (red1 (add2 s 2 10) (add2 s 3 11) (add2 s 6 14) (add2 s 7 15))
theorem red_walk (a0 a1 a2 a3 : Int) (w : World) : Calls Tryd.prog 52 #[.int .u64 a0, .int .u64 a1, .int .u64 a2, .int .u64 a3] w fun e w' => e = .returned (.tuple #[.int .u64 (red0 a0 a1 a2 a3), .int .u64 (red1 a0 a1 a2 a3)]) ∧ Drawn0 w w' := highwayhash_reduceMod.calls a0 a1 a2 a3 _ _ w rfl
set_option maxHeartbeats 16000000 in
set_option maxRecDepth 100000 in
theorem fin8_walk (g T ob To no : Nat) (s : Nat → Int) (m om : Nat → Value) (w : World) (hs : (⟨g, T, 16, stm s m⟩ : Bl).In w) (ho : (⟨ob, To, no, om⟩ : Bl).In w) (hne : ob ≠ g) (hno : 8 ≤ no) :
    Calls Tryd.prog 49 #[.slice (some ⟨ob, 0, none⟩) 8 8, .pointer (some ⟨g, 0, none⟩)] w fun e w' => e = .returned (.tuple #[]) ∧ (⟨ob, To, no, fin8 (mixN 4 s) om⟩ : Bl).In w' ∧ Fr [g, ob] w w' := by
  refine calls_of_wp Tryd.func49 rfl ?_
  have hA0 := has_two (β := fun _ => 0) (.v (.slice (some ⟨ob, 0, none⟩) 8 8)) (.v (.pointer (some ⟨g, 0, none⟩))) 265
  have lg : g < w.heap.size := hs.lt
  have lo : ob < w.heap.size := ho.lt
  refine wp_seq ?_
  refine wp_region ?_
  refine alloc_ops (N := 267) (i := 0) (d := 4) (l := []) rfl rfl rfl (by decide) hA0 rfl allocOk61 (fun a1 hA1 hd1 => ?_)
  show Code.wp _ _ _ _ _
  refine wp_seq ?_
  refine wp_region ?_
  refine alloc_ops (N := 267) (i := 0) (d := 5) (l := []) rfl rfl rfl (by decide) hA1 rfl allocOk71 (fun a2 hA2 hd2 => ?_)
  show Code.wp _ _ _ _ _
  rw [alloc_size] at hA2
  have F0 : Fr [g, ob] w ((w.alloc (.cells (Array.replicate 4 (.int .u64 0)) 61)).alloc (.cells (Array.replicate 32 (.int .u8 0)) 71)) := ((Fr.refl _ w).alloc _).alloc _
  have G0 := (Fr.refl [] w).alloc (.cells (Array.replicate 4 (.int .u64 0)) 61)
  have G1 := G0.alloc (.cells (Array.replicate 32 (.int .u8 0)) 71)
  have M0 : Mw (bg [⟨g, T, 16, stm s m⟩, ⟨w.heap.size, 61, 4, (fun _ => .int .u64 0)⟩, ⟨w.heap.size + 1, 71, 32, (fun _ => .int .u8 0)⟩, ⟨ob, To, no, om⟩]) [⟨g, T, 16, stm s m⟩, ⟨w.heap.size, 61, 4, (fun _ => .int .u64 0)⟩, ⟨w.heap.size + 1, 71, 32, (fun _ => .int .u8 0)⟩, ⟨ob, To, no, om⟩] ((w.alloc (.cells (Array.replicate 4 (.int .u64 0)) 61)).alloc (.cells (Array.replicate 32 (.int .u8 0)) 71)) := by
    refine ⟨rfl, hs.on G1 (by simp), ?_, bl_rep2 w _ _ _ _, ?_, bl_rep1 w _ _ _ _, ?_, ho.on G1 (by simp), by simp, trivial⟩
    · intro c hc
      simp only [List.mem_cons, List.not_mem_nil, or_false] at hc
      rcases hc with rfl | rfl | rfl
      · show w.heap.size ≠ g
        omega
      · show w.heap.size + 1 ≠ g
        omega
      · exact hne
    · intro c hc
      simp only [List.mem_cons, List.not_mem_nil, or_false] at hc
      rcases hc with rfl | rfl
      · show w.heap.size + 1 ≠ w.heap.size
        omega
      · show ob ≠ w.heap.size
        omega
    · intro c hc
      simp only [List.mem_cons, List.not_mem_nil, or_false] at hc
      subst hc
      show ob ≠ w.heap.size + 1
      omega
  have h2 := has_list (β := bg [⟨g, T, 16, stm s m⟩, ⟨w.heap.size, 61, 4, (fun _ => .int .u64 0)⟩, ⟨w.heap.size + 1, 71, 32, (fun _ => .int .u8 0)⟩, ⟨ob, To, no, om⟩]) (a := a2) hA2.1 (E := [(0, .s 3 0 8 8), (1, .p 0 0), (4, .p 1 0), (5, .p 2 0)]) ⟨hA2.2 0 _ rfl, hA2.2 1 _ rfl, hA2.2 4 _ rfl, hA2.2 5 _ rfl, trivial⟩
  have d2 : a2.defers = [] := hd2.trans hd1
  clear hA0 hA1 hA2 hd1 hd2 G0 G1 hs ho
  generalize (w.alloc (.cells (Array.replicate 4 (.int .u64 0)) 61)).alloc (.cells (Array.replicate 32 (.int .u8 0)) 71) = W0 at F0 M0 ⊢
  have hQ : ∀ c (a a' : Act) w1, a'.defers = a.defers → bodyPost Tryd.prog Tryd.f49 (fun e w' => e = .returned (.tuple #[]) ∧ (⟨ob, To, no, fin8 (mixN 4 s) om⟩ : Bl).In w' ∧ Fr [g, ob] w w') (.panic c) a w1 → bodyPost Tryd.prog Tryd.f49 (fun e w' => e = .returned (.tuple #[]) ∧ (⟨ob, To, no, fin8 (mixN 4 s) om⟩ : Bl).In w' ∧ Fr [g, ob] w w') (.panic c) a' w1 := fun _ _ _ _ hd h => ⟨hd.trans h.1, h.2⟩
  refine wp_seq ?_
  refine regM_seq (N := 267) (T := TT) (n := 1) (E2 := [(0, .s 3 0 8 8), (1, .p 0 0), (4, .p 1 0), (5, .p 2 0), (6, .v (.int .i64 4))]) tabOk h2 M0 rfl (by kernel_rfl) ⟨by kernel_rfl, by kernel_rfl, by kernel_rfl, by kernel_rfl, by kernel_rfl, trivial⟩ (fun a3 h3 d3 => ?_)
  show Code.wp _ _ _ _ _
  replace d3 := d3.trans d2
  clear h2 d2
  refine wp_seq ?_
  refine wp_seq ?_
  refine regM_seq (N := 267) (T := TT) (n := 3) (E2 := [(0, .s 3 0 8 8), (1, .p 0 0), (4, .p 1 0), (5, .p 2 0), (6, .v (.int .i64 4)), (12, .v (.bool false))]) tabOk h3 M0 rfl (by kernel_rfl) ⟨by kernel_rfl, by kernel_rfl, by kernel_rfl, by kernel_rfl, by kernel_rfl, by kernel_rfl, trivial⟩ (fun a4 h4 d4 => ?_)
  show Code.wp _ _ _ _ _
  replace d4 := d4.trans d3
  clear h3 d3
  refine wp_cond_false (h4.2 12 _ rfl) ?_
  refine wp_seq ?_
  refine regM_seq (N := 267) (T := TT) (n := 3) (E2 := [(0, .s 3 0 8 8), (1, .p 0 0), (4, .p 1 0), (5, .p 2 0), (6, .v (.int .i64 4)), (15, .v (.bool false))]) tabOk h4 M0 rfl (by kernel_rfl) ⟨by kernel_rfl, by kernel_rfl, by kernel_rfl, by kernel_rfl, by kernel_rfl, by kernel_rfl, trivial⟩ (fun a5 h5 d5 => ?_)
  show Code.wp _ _ _ _ _
  replace d5 := d5.trans d4
  clear h4 d4
  refine wp_cond_false (h5.2 15 _ rfl) ?_
  refine wp_skip ?_
  show Code.wp _ _ _ _ _
  refine wp_seq ?_
  refine wp_seq ?_
  refine regM_seq (N := 267) (T := TT) (n := 1) (E2 := [(0, .s 3 0 8 8), (1, .p 0 0), (4, .p 1 0), (5, .p 2 0), (6, .v (.int .i64 4)), (7, .v (.int .i64 0))]) tabOk h5 M0 rfl (by kernel_rfl) ⟨by kernel_rfl, by kernel_rfl, by kernel_rfl, by kernel_rfl, by kernel_rfl, by kernel_rfl, trivial⟩ (fun a6 h6 d6 => ?_)
  show Code.wp _ _ _ _ _
  replace d6 := d6.trans d5
  clear h5 d5
  refine wp_block ?_
  refine wp_loop (fun a wr => ∃ (q : Nat) (pm tm : Nat → Value), q ≤ 4 ∧ Has 267 (bg [⟨g, T, 16, stm s m⟩, ⟨w.heap.size, 61, 4, (fun _ => .int .u64 0)⟩, ⟨w.heap.size + 1, 71, 32, (fun _ => .int .u8 0)⟩, ⟨ob, To, no, om⟩]) [(0, .s 3 0 8 8), (1, .p 0 0), (4, .p 1 0), (5, .p 2 0), (6, .v (.int .i64 4)), (7, .v (.int .i64 (q : Int)))] a ∧ a.defers = [] ∧ Mw (bg [⟨g, T, 16, stm s m⟩, ⟨w.heap.size, 61, 4, (fun _ => .int .u64 0)⟩, ⟨w.heap.size + 1, 71, 32, (fun _ => .int .u8 0)⟩, ⟨ob, To, no, om⟩]) [⟨g, T, 16, stm (mixN q s) m⟩, ⟨w.heap.size, 61, 4, pm⟩, ⟨w.heap.size + 1, 71, 32, tm⟩, ⟨ob, To, no, om⟩] wr ∧ Fr [g, ob] w wr) (fun a _ => 4 - (intOf (a.eval (.tmp 7))).toNat) ⟨0, _, _, by decide, h6, d6, M0, F0⟩ ?_
  rintro a wr ⟨q, pm, tm, hq, hH, hd, hM, hF⟩
  clear h6 d6 M0 F0
  by_cases hlt : q < 4
  · refine fin_round [⟨ob, To, no, om⟩] g T w.heap.size 61 (w.heap.size + 1) 71 4 q (.s 3 0 8 8) _ (mixN q s) m pm tm wr a _ _ hlt (by decide) hM hH (fun c a a' w1 hd h => hQ c a a' w1 hd h) (fun a' W' pm' tm' h1 h2 h4 h5 => ?_)
    refine ⟨⟨q + 1, pm', tm', by omega, h1, h2.trans hd, h4, hF.comp h5 ?_⟩, ?_⟩
    · intro x hx
      simp only [List.mem_cons, List.not_mem_nil, or_false] at hx
      rcases hx with rfl | rfl | rfl
      · exact Or.inl (by simp)
      · exact Or.inr (Nat.le_refl _)
      · exact Or.inr (Nat.le_succ _)
    · have e1 : a'.eval (.tmp 7) = .int .i64 ((q + 1 : Nat) : Int) := h1.2 7 _ rfl
      have e2 : a.eval (.tmp 7) = .int .i64 (q : Int) := hH.2 7 _ rfl
      rw [e1, e2]
      simp only [intOf]
      omega
  · obtain rfl : q = 4 := by omega
    generalize hsf : mixN 4 s = sf at hM
    refine wp_seq ?_
    refine wp_seq ?_
    refine regM_seq (N := 267) (T := TT) (n := 3) (E2 := [(0, .s 3 0 8 8), (1, .p 0 0), (4, .p 1 0), (5, .p 2 0), (18, .v (.bool false))]) tabOk hH hM rfl (by kernel_rfl) ⟨by kernel_rfl, by kernel_rfl, by kernel_rfl, by kernel_rfl, by kernel_rfl, trivial⟩ (fun a0 h0 d0 => ?_)
    show Code.wp _ _ _ _ _
    refine wp_cond_false (h0.2 18 _ rfl) (wp_exit ?_)
    refine then_exit (then_exit (exit_in ?_))
    show Code.wp _ _ _ _ _
    replace d0 := d0.trans hd
    clear hH hd hlt hq
    refine wp_seq ?_
    refine regM_seq (N := 267) (T := TT) (n := 2) (E2 := [(0, .s 3 0 8 8), (1, .p 0 0), (4, .p 1 0), (5, .p 2 0), (93, .v (.int .i64 8))]) tabOk h0 hM rfl (by kernel_rfl) ⟨by kernel_rfl, by kernel_rfl, by kernel_rfl, by kernel_rfl, by kernel_rfl, trivial⟩ (fun a1 h1 d1 => ?_)
    show Code.wp _ _ _ _ _
    replace d1 := d1.trans d0
    clear h0 d0
    refine wp_block ?_
    refine wp_seq ?_
    refine regM_seq (N := 267) (T := TT) (n := 2) (E2 := [(0, .s 3 0 8 8), (1, .p 0 0), (4, .p 1 0), (5, .p 2 0), (93, .v (.int .i64 8)), (94, .v (.bool true))]) tabOk h1 hM rfl (by kernel_rfl) ⟨by kernel_rfl, by kernel_rfl, by kernel_rfl, by kernel_rfl, by kernel_rfl, by kernel_rfl, trivial⟩ (fun a2 h2 d2 => ?_)
    show Code.wp _ _ _ _ _
    replace d2 := d2.trans d1
    clear h1 d1
    refine wp_cond_true (h2.2 94 _ rfl) ?_
    have P3 := put_bl (hM.drew.2.get (k := 3) rfl) 0 8 8 (add4 sf 0 4 8 12) (by decide) (by show 8 ≤ no; omega)
    refine reg_call_last (N := 267) (T := TT) (j := 21) (l1 := [0, 1, 2, 3, 4, 5, 6, 7, 8, 9, 10, 11, 12, 13, 14, 15, 16, 17, 18, 19, 20]) (f := 51) (d := 117) (args := [.v (.agg #[]), .s 3 0 8 8, .v (.int .u64 (add4 sf 0 4 8 12))]) (E2 := [(0, .s 3 0 8 8), (1, .p 0 0), (4, .p 1 0), (5, .p 2 0)]) (by kernel_rfl) tabOk h2 hM.mem rfl (by kernel_rfl) (by kernel_rfl) Tryd.func51 rfl rfl (fun v W' => Mw (bg [⟨g, T, 16, stm s m⟩, ⟨w.heap.size, 61, 4, (fun _ => .int .u64 0)⟩, ⟨w.heap.size + 1, 71, 32, (fun _ => .int .u8 0)⟩, ⟨ob, To, no, om⟩]) [⟨g, T, 16, stm sf m⟩, ⟨w.heap.size, 61, 4, pm⟩, ⟨w.heap.size + 1, 71, 32, tm⟩, ⟨ob, To, no, (putB om 0 (add4 sf 0 4 8 12))⟩] W' ∧ Fr [ob] wr W')
      (P3.mono fun e W' hh => ⟨_, hh.1, (hM.drew.rep 3 rfl hh.2.2 hh.2.1 : Mw _ (bset _ 3 _) W'), hh.2.2⟩) ⟨by kernel_rfl, by kernel_rfl, by kernel_rfl, by kernel_rfl, trivial⟩ rfl (fun _ _ _ _ hd h => And.intro (hd.trans (And.left h)) (And.right h)) (fun a3 v3 W3 h3 d3 hR3 => ?_)
    obtain ⟨M3, G3⟩ := hR3
    replace d3 := d3.trans d2
    have F3 := Fr.comp hF G3 (by intro x hx; left; simp at hx; subst hx; simp)
    replace h3 := sub_ok (E := [(0, .s 3 0 8 8), (1, .p 0 0), (4, .p 1 0), (5, .p 2 0)]) h3 ⟨by kernel_rfl, by kernel_rfl, by kernel_rfl, by kernel_rfl, trivial⟩
    clear h2 P3
    refine in_normal ?_
    subst hsf
    exact ⟨d3, _, results_none rfl _ _ _, rfl, M3.2.get (k := 3) rfl, F3⟩
set_option maxHeartbeats 16000000 in
set_option maxRecDepth 100000 in
theorem fin32_walk (g T ob To no : Nat) (s : Nat → Int) (m om : Nat → Value) (w : World) (hs : (⟨g, T, 16, stm s m⟩ : Bl).In w) (ho : (⟨ob, To, no, om⟩ : Bl).In w) (hne : ob ≠ g) (hno : 32 ≤ no) :
    Calls Tryd.prog 49 #[.slice (some ⟨ob, 0, none⟩) 32 32, .pointer (some ⟨g, 0, none⟩)] w fun e w' => e = .returned (.tuple #[]) ∧ (⟨ob, To, no, fin32 (mixN 10 s) om⟩ : Bl).In w' ∧ Fr [g, ob] w w' := by
  refine calls_of_wp Tryd.func49 rfl ?_
  have hA0 := has_two (β := fun _ => 0) (.v (.slice (some ⟨ob, 0, none⟩) 32 32)) (.v (.pointer (some ⟨g, 0, none⟩))) 265
  have lg : g < w.heap.size := hs.lt
  have lo : ob < w.heap.size := ho.lt
  refine wp_seq ?_
  refine wp_region ?_
  refine alloc_ops (N := 267) (i := 0) (d := 4) (l := []) rfl rfl rfl (by decide) hA0 rfl allocOk61 (fun a1 hA1 hd1 => ?_)
  show Code.wp _ _ _ _ _
  refine wp_seq ?_
  refine wp_region ?_
  refine alloc_ops (N := 267) (i := 0) (d := 5) (l := []) rfl rfl rfl (by decide) hA1 rfl allocOk71 (fun a2 hA2 hd2 => ?_)
  show Code.wp _ _ _ _ _
  rw [alloc_size] at hA2
  have F0 : Fr [g, ob] w ((w.alloc (.cells (Array.replicate 4 (.int .u64 0)) 61)).alloc (.cells (Array.replicate 32 (.int .u8 0)) 71)) := ((Fr.refl _ w).alloc _).alloc _
  have G0 := (Fr.refl [] w).alloc (.cells (Array.replicate 4 (.int .u64 0)) 61)
  have G1 := G0.alloc (.cells (Array.replicate 32 (.int .u8 0)) 71)
  have M0 : Mw (bg [⟨g, T, 16, stm s m⟩, ⟨w.heap.size, 61, 4, (fun _ => .int .u64 0)⟩, ⟨w.heap.size + 1, 71, 32, (fun _ => .int .u8 0)⟩, ⟨ob, To, no, om⟩]) [⟨g, T, 16, stm s m⟩, ⟨w.heap.size, 61, 4, (fun _ => .int .u64 0)⟩, ⟨w.heap.size + 1, 71, 32, (fun _ => .int .u8 0)⟩, ⟨ob, To, no, om⟩] ((w.alloc (.cells (Array.replicate 4 (.int .u64 0)) 61)).alloc (.cells (Array.replicate 32 (.int .u8 0)) 71)) := by
    refine ⟨rfl, hs.on G1 (by simp), ?_, bl_rep2 w _ _ _ _, ?_, bl_rep1 w _ _ _ _, ?_, ho.on G1 (by simp), by simp, trivial⟩
    · intro c hc
      simp only [List.mem_cons, List.not_mem_nil, or_false] at hc
      rcases hc with rfl | rfl | rfl
      · show w.heap.size ≠ g
        omega
      · show w.heap.size + 1 ≠ g
        omega
      · exact hne
    · intro c hc
      simp only [List.mem_cons, List.not_mem_nil, or_false] at hc
      rcases hc with rfl | rfl
      · show w.heap.size + 1 ≠ w.heap.size
        omega
      · show ob ≠ w.heap.size
        omega
    · intro c hc
      simp only [List.mem_cons, List.not_mem_nil, or_false] at hc
      subst hc
      show ob ≠ w.heap.size + 1
      omega
  have h2 := has_list (β := bg [⟨g, T, 16, stm s m⟩, ⟨w.heap.size, 61, 4, (fun _ => .int .u64 0)⟩, ⟨w.heap.size + 1, 71, 32, (fun _ => .int .u8 0)⟩, ⟨ob, To, no, om⟩]) (a := a2) hA2.1 (E := [(0, .s 3 0 32 32), (1, .p 0 0), (4, .p 1 0), (5, .p 2 0)]) ⟨hA2.2 0 _ rfl, hA2.2 1 _ rfl, hA2.2 4 _ rfl, hA2.2 5 _ rfl, trivial⟩
  have d2 : a2.defers = [] := hd2.trans hd1
  clear hA0 hA1 hA2 hd1 hd2 G0 G1 hs ho
  generalize (w.alloc (.cells (Array.replicate 4 (.int .u64 0)) 61)).alloc (.cells (Array.replicate 32 (.int .u8 0)) 71) = W0 at F0 M0 ⊢
  have hQ : ∀ c (a a' : Act) w1, a'.defers = a.defers → bodyPost Tryd.prog Tryd.f49 (fun e w' => e = .returned (.tuple #[]) ∧ (⟨ob, To, no, fin32 (mixN 10 s) om⟩ : Bl).In w' ∧ Fr [g, ob] w w') (.panic c) a w1 → bodyPost Tryd.prog Tryd.f49 (fun e w' => e = .returned (.tuple #[]) ∧ (⟨ob, To, no, fin32 (mixN 10 s) om⟩ : Bl).In w' ∧ Fr [g, ob] w w') (.panic c) a' w1 := fun _ _ _ _ hd h => ⟨hd.trans h.1, h.2⟩
  refine wp_seq ?_
  refine regM_seq (N := 267) (T := TT) (n := 1) (E2 := [(0, .s 3 0 32 32), (1, .p 0 0), (4, .p 1 0), (5, .p 2 0), (6, .v (.int .i64 4))]) tabOk h2 M0 rfl (by kernel_rfl) ⟨by kernel_rfl, by kernel_rfl, by kernel_rfl, by kernel_rfl, by kernel_rfl, trivial⟩ (fun a3 h3 d3 => ?_)
  show Code.wp _ _ _ _ _
  replace d3 := d3.trans d2
  clear h2 d2
  refine wp_seq ?_
  refine wp_seq ?_
  refine regM_seq (N := 267) (T := TT) (n := 3) (E2 := [(0, .s 3 0 32 32), (1, .p 0 0), (4, .p 1 0), (5, .p 2 0), (6, .v (.int .i64 4)), (12, .v (.bool false))]) tabOk h3 M0 rfl (by kernel_rfl) ⟨by kernel_rfl, by kernel_rfl, by kernel_rfl, by kernel_rfl, by kernel_rfl, by kernel_rfl, trivial⟩ (fun a4 h4 d4 => ?_)
  show Code.wp _ _ _ _ _
  replace d4 := d4.trans d3
  clear h3 d3
  refine wp_cond_false (h4.2 12 _ rfl) ?_
  refine wp_seq ?_
  refine regM_seq (N := 267) (T := TT) (n := 3) (E2 := [(0, .s 3 0 32 32), (1, .p 0 0), (4, .p 1 0), (5, .p 2 0), (6, .v (.int .i64 4)), (15, .v (.bool true))]) tabOk h4 M0 rfl (by kernel_rfl) ⟨by kernel_rfl, by kernel_rfl, by kernel_rfl, by kernel_rfl, by kernel_rfl, by kernel_rfl, trivial⟩ (fun a5 h5 d5 => ?_)
  show Code.wp _ _ _ _ _
  replace d5 := d5.trans d4
  clear h4 d4
  refine wp_cond_true (h5.2 15 _ rfl) ?_
  refine regM_seq (N := 267) (T := TT) (n := 1) (E2 := [(0, .s 3 0 32 32), (1, .p 0 0), (4, .p 1 0), (5, .p 2 0), (6, .v (.int .i64 10))]) tabOk h5 M0 rfl (by kernel_rfl) ⟨by kernel_rfl, by kernel_rfl, by kernel_rfl, by kernel_rfl, by kernel_rfl, trivial⟩ (fun a6 h6 d6 => ?_)
  show Code.wp _ _ _ _ _
  replace d6 := d6.trans d5
  clear h5 d5
  refine wp_seq ?_
  refine wp_seq ?_
  refine regM_seq (N := 267) (T := TT) (n := 1) (E2 := [(0, .s 3 0 32 32), (1, .p 0 0), (4, .p 1 0), (5, .p 2 0), (6, .v (.int .i64 10)), (7, .v (.int .i64 0))]) tabOk h6 M0 rfl (by kernel_rfl) ⟨by kernel_rfl, by kernel_rfl, by kernel_rfl, by kernel_rfl, by kernel_rfl, by kernel_rfl, trivial⟩ (fun a7 h7 d7 => ?_)
  show Code.wp _ _ _ _ _
  replace d7 := d7.trans d6
  clear h6 d6
  refine wp_block ?_
  refine wp_loop (fun a wr => ∃ (q : Nat) (pm tm : Nat → Value), q ≤ 10 ∧ Has 267 (bg [⟨g, T, 16, stm s m⟩, ⟨w.heap.size, 61, 4, (fun _ => .int .u64 0)⟩, ⟨w.heap.size + 1, 71, 32, (fun _ => .int .u8 0)⟩, ⟨ob, To, no, om⟩]) [(0, .s 3 0 32 32), (1, .p 0 0), (4, .p 1 0), (5, .p 2 0), (6, .v (.int .i64 10)), (7, .v (.int .i64 (q : Int)))] a ∧ a.defers = [] ∧ Mw (bg [⟨g, T, 16, stm s m⟩, ⟨w.heap.size, 61, 4, (fun _ => .int .u64 0)⟩, ⟨w.heap.size + 1, 71, 32, (fun _ => .int .u8 0)⟩, ⟨ob, To, no, om⟩]) [⟨g, T, 16, stm (mixN q s) m⟩, ⟨w.heap.size, 61, 4, pm⟩, ⟨w.heap.size + 1, 71, 32, tm⟩, ⟨ob, To, no, om⟩] wr ∧ Fr [g, ob] w wr) (fun a _ => 10 - (intOf (a.eval (.tmp 7))).toNat) ⟨0, _, _, by decide, h7, d7, M0, F0⟩ ?_
  rintro a wr ⟨q, pm, tm, hq, hH, hd, hM, hF⟩
  clear h7 d7 M0 F0
  by_cases hlt : q < 10
  · refine fin_round [⟨ob, To, no, om⟩] g T w.heap.size 61 (w.heap.size + 1) 71 10 q (.s 3 0 32 32) _ (mixN q s) m pm tm wr a _ _ hlt (by decide) hM hH (fun c a a' w1 hd h => hQ c a a' w1 hd h) (fun a' W' pm' tm' h1 h2 h4 h5 => ?_)
    refine ⟨⟨q + 1, pm', tm', by omega, h1, h2.trans hd, h4, hF.comp h5 ?_⟩, ?_⟩
    · intro x hx
      simp only [List.mem_cons, List.not_mem_nil, or_false] at hx
      rcases hx with rfl | rfl | rfl
      · exact Or.inl (by simp)
      · exact Or.inr (Nat.le_refl _)
      · exact Or.inr (Nat.le_succ _)
    · have e1 : a'.eval (.tmp 7) = .int .i64 ((q + 1 : Nat) : Int) := h1.2 7 _ rfl
      have e2 : a.eval (.tmp 7) = .int .i64 (q : Int) := hH.2 7 _ rfl
      rw [e1, e2]
      simp only [intOf]
      omega
  · obtain rfl : q = 10 := by omega
    generalize hsf : mixN 10 s = sf at hM
    refine wp_seq ?_
    refine wp_seq ?_
    refine regM_seq (N := 267) (T := TT) (n := 3) (E2 := [(0, .s 3 0 32 32), (1, .p 0 0), (4, .p 1 0), (5, .p 2 0), (18, .v (.bool false))]) tabOk hH hM rfl (by kernel_rfl) ⟨by kernel_rfl, by kernel_rfl, by kernel_rfl, by kernel_rfl, by kernel_rfl, trivial⟩ (fun a0 h0 d0 => ?_)
    show Code.wp _ _ _ _ _
    refine wp_cond_false (h0.2 18 _ rfl) (wp_exit ?_)
    refine then_exit (then_exit (exit_in ?_))
    show Code.wp _ _ _ _ _
    replace d0 := d0.trans hd
    clear hH hd hlt hq
    refine wp_seq ?_
    refine regM_seq (N := 267) (T := TT) (n := 2) (E2 := [(0, .s 3 0 32 32), (1, .p 0 0), (4, .p 1 0), (5, .p 2 0), (93, .v (.int .i64 32))]) tabOk h0 hM rfl (by kernel_rfl) ⟨by kernel_rfl, by kernel_rfl, by kernel_rfl, by kernel_rfl, by kernel_rfl, trivial⟩ (fun a1 h1 d1 => ?_)
    show Code.wp _ _ _ _ _
    replace d1 := d1.trans d0
    clear h0 d0
    refine wp_block ?_
    refine wp_seq ?_
    refine regM_seq (N := 267) (T := TT) (n := 2) (E2 := [(0, .s 3 0 32 32), (1, .p 0 0), (4, .p 1 0), (5, .p 2 0), (93, .v (.int .i64 32)), (94, .v (.bool false))]) tabOk h1 hM rfl (by kernel_rfl) ⟨by kernel_rfl, by kernel_rfl, by kernel_rfl, by kernel_rfl, by kernel_rfl, by kernel_rfl, trivial⟩ (fun a2 h2 d2 => ?_)
    show Code.wp _ _ _ _ _
    replace d2 := d2.trans d1
    clear h1 d1
    refine wp_cond_false (h2.2 94 _ rfl) ?_
    refine wp_seq ?_
    refine regM_seq (N := 267) (T := TT) (n := 2) (E2 := [(0, .s 3 0 32 32), (1, .p 0 0), (4, .p 1 0), (5, .p 2 0), (93, .v (.int .i64 32)), (118, .v (.bool false))]) tabOk h2 hM rfl (by kernel_rfl) ⟨by kernel_rfl, by kernel_rfl, by kernel_rfl, by kernel_rfl, by kernel_rfl, by kernel_rfl, trivial⟩ (fun a3 h3 d3 => ?_)
    show Code.wp _ _ _ _ _
    replace d3 := d3.trans d2
    clear h2 d2
    refine wp_cond_false (h3.2 118 _ rfl) ?_
    refine wp_seq ?_
    refine regM_seq (N := 267) (T := TT) (n := 2) (E2 := [(0, .s 3 0 32 32), (1, .p 0 0), (4, .p 1 0), (5, .p 2 0), (93, .v (.int .i64 32)), (165, .v (.bool true))]) tabOk h3 hM rfl (by kernel_rfl) ⟨by kernel_rfl, by kernel_rfl, by kernel_rfl, by kernel_rfl, by kernel_rfl, by kernel_rfl, trivial⟩ (fun a4 h4 d4 => ?_)
    show Code.wp _ _ _ _ _
    replace d4 := d4.trans d3
    clear h3 d3
    refine wp_cond_true (h4.2 165 _ rfl) ?_
    refine wp_seq ?_
    refine reg_call_keep (S := fun W => Mw (bg [⟨g, T, 16, stm s m⟩, ⟨w.heap.size, 61, 4, (fun _ => .int .u64 0)⟩, ⟨w.heap.size + 1, 71, 32, (fun _ => .int .u8 0)⟩, ⟨ob, To, no, om⟩]) [⟨g, T, 16, stm sf m⟩, ⟨w.heap.size, 61, 4, pm⟩, ⟨w.heap.size + 1, 71, 32, tm⟩, ⟨ob, To, no, om⟩] W ∧ Fr [g, ob] w W) (N := 267) (T := TT) (M := bm [⟨g, T, 16, stm sf m⟩, ⟨w.heap.size, 61, 4, pm⟩, ⟨w.heap.size + 1, 71, 32, tm⟩, ⟨ob, To, no, om⟩]) (j := 36) (l1 := [0, 1, 2, 3, 4, 5, 6, 7, 8, 9, 10, 11, 12, 13, 14, 15, 16, 17, 18, 19, 20, 21, 22, 23, 24, 25, 26, 27, 28, 29, 30, 31, 32, 33, 34, 35]) (l2 := [37, 38, 39, 40, 41]) (f := 52) (d := 204) (v := .tuple #[.int .u64 (red0 (add2 sf 0 8) (add2 sf 1 9) (add2 sf 4 12) (add2 sf 5 13)), .int .u64 (red1 (add2 sf 0 8) (add2 sf 1 9) (add2 sf 4 12) (add2 sf 5 13))]) (args := [.v (.int .u64 (add2 sf 0 8)), .v (.int .u64 (add2 sf 1 9)), .v (.int .u64 (add2 sf 4 12)), .v (.int .u64 (add2 sf 5 13))]) (E2 := [(0, .s 3 0 32 32), (1, .p 0 0), (4, .p 1 0), (5, .p 2 0), (8, .v (.int .u64 (red0 (add2 sf 0 8) (add2 sf 1 9) (add2 sf 4 12) (add2 sf 5 13)))), (9, .v (.int .u64 (red1 (add2 sf 0 8) (add2 sf 1 9) (add2 sf 4 12) (add2 sf 5 13))))]) (by kernel_rfl) tabOk (fun W h => h.1.mem) h4 ⟨hM.drew, hF.drew⟩ rfl (by kernel_rfl) (by kernel_rfl) Tryd.func52 rfl rfl
      (fun W hW => (red_walk (add2 sf 0 8) (add2 sf 1 9) (add2 sf 4 12) (add2 sf 5 13) W).mono fun e W' hh => ⟨hh.1, hW.1.onB hh.2.below, hW.2.trans (Fr.ofBelow _ hh.2.below)⟩) (by kernel_rfl) ⟨by kernel_rfl, by kernel_rfl, by kernel_rfl, by kernel_rfl, by kernel_rfl, by kernel_rfl, trivial⟩ (fun _ _ _ _ hd h => And.intro (hd.trans (And.left h)) (And.right h)) (fun a5 W5 h5 d5 hR5 => ?_)
    obtain ⟨M5, F5⟩ := hR5
    replace d5 := d5.trans d4
    clear h4
    show Code.wp _ _ _ _ _
    refine wp_seq ?_
    have P6 := put_bl (M5.drew.2.get (k := 3) rfl) 0 32 32 (red0 (add2 sf 0 8) (add2 sf 1 9) (add2 sf 4 12) (add2 sf 5 13)) (by decide) (by show 8 ≤ no; omega)
    refine reg_call_last (N := 267) (T := TT) (j := 4) (l1 := [0, 1, 2, 3]) (f := 51) (d := 211) (args := [.v (.agg #[]), .s 3 0 32 32, .v (.int .u64 (red0 (add2 sf 0 8) (add2 sf 1 9) (add2 sf 4 12) (add2 sf 5 13)))]) (E2 := [(0, .s 3 0 32 32), (1, .p 0 0), (4, .p 1 0), (5, .p 2 0), (8, .v (.int .u64 (red0 (add2 sf 0 8) (add2 sf 1 9) (add2 sf 4 12) (add2 sf 5 13)))), (9, .v (.int .u64 (red1 (add2 sf 0 8) (add2 sf 1 9) (add2 sf 4 12) (add2 sf 5 13))))]) (by kernel_rfl) tabOk h5 M5.mem rfl (by kernel_rfl) (by kernel_rfl) Tryd.func51 rfl rfl (fun v W' => Mw (bg [⟨g, T, 16, stm s m⟩, ⟨w.heap.size, 61, 4, (fun _ => .int .u64 0)⟩, ⟨w.heap.size + 1, 71, 32, (fun _ => .int .u8 0)⟩, ⟨ob, To, no, om⟩]) [⟨g, T, 16, stm sf m⟩, ⟨w.heap.size, 61, 4, pm⟩, ⟨w.heap.size + 1, 71, 32, tm⟩, ⟨ob, To, no, (putB om 0 (red0 (add2 sf 0 8) (add2 sf 1 9) (add2 sf 4 12) (add2 sf 5 13)))⟩] W' ∧ Fr [ob] W5 W')
      (P6.mono fun e W' hh => ⟨_, hh.1, (M5.drew.rep 3 rfl hh.2.2 hh.2.1 : Mw _ (bset _ 3 _) W'), hh.2.2⟩) ⟨by kernel_rfl, by kernel_rfl, by kernel_rfl, by kernel_rfl, by kernel_rfl, by kernel_rfl, trivial⟩ rfl (fun _ _ _ _ hd h => And.intro (hd.trans (And.left h)) (And.right h)) (fun a6 v6 W6 h6 d6 hR6 => ?_)
    obtain ⟨M6, G6⟩ := hR6
    replace d6 := d6.trans d5
    have F6 := Fr.comp F5 G6 (by intro x hx; left; simp at hx; subst hx; simp)
    replace h6 := sub_ok (E := [(0, .s 3 0 32 32), (1, .p 0 0), (4, .p 1 0), (5, .p 2 0), (8, .v (.int .u64 (red0 (add2 sf 0 8) (add2 sf 1 9) (add2 sf 4 12) (add2 sf 5 13)))), (9, .v (.int .u64 (red1 (add2 sf 0 8) (add2 sf 1 9) (add2 sf 4 12) (add2 sf 5 13))))]) h6 ⟨by kernel_rfl, by kernel_rfl, by kernel_rfl, by kernel_rfl, by kernel_rfl, by kernel_rfl, trivial⟩
    clear h5 P6
    show Code.wp _ _ _ _ _
    refine wp_seq ?_
    have P7 := put_bl (M6.drew.2.get (k := 3) rfl) 8 24 24 (red1 (add2 sf 0 8) (add2 sf 1 9) (add2 sf 4 12) (add2 sf 5 13)) (by decide) (by show 16 ≤ no; omega)
    refine reg_call_last (N := 267) (T := TT) (j := 4) (l1 := [0, 1, 2, 3]) (f := 51) (d := 216) (args := [.v (.agg #[]), .s 3 8 24 24, .v (.int .u64 (red1 (add2 sf 0 8) (add2 sf 1 9) (add2 sf 4 12) (add2 sf 5 13)))]) (E2 := [(0, .s 3 0 32 32), (1, .p 0 0), (4, .p 1 0), (5, .p 2 0)]) (by kernel_rfl) tabOk h6 M6.mem rfl (by kernel_rfl) (by kernel_rfl) Tryd.func51 rfl rfl (fun v W' => Mw (bg [⟨g, T, 16, stm s m⟩, ⟨w.heap.size, 61, 4, (fun _ => .int .u64 0)⟩, ⟨w.heap.size + 1, 71, 32, (fun _ => .int .u8 0)⟩, ⟨ob, To, no, om⟩]) [⟨g, T, 16, stm sf m⟩, ⟨w.heap.size, 61, 4, pm⟩, ⟨w.heap.size + 1, 71, 32, tm⟩, ⟨ob, To, no, (putB (putB om 0 (red0 (add2 sf 0 8) (add2 sf 1 9) (add2 sf 4 12) (add2 sf 5 13))) 8 (red1 (add2 sf 0 8) (add2 sf 1 9) (add2 sf 4 12) (add2 sf 5 13)))⟩] W' ∧ Fr [ob] W6 W')
      (P7.mono fun e W' hh => ⟨_, hh.1, (M6.drew.rep 3 rfl hh.2.2 hh.2.1 : Mw _ (bset _ 3 _) W'), hh.2.2⟩) ⟨by kernel_rfl, by kernel_rfl, by kernel_rfl, by kernel_rfl, trivial⟩ rfl (fun _ _ _ _ hd h => And.intro (hd.trans (And.left h)) (And.right h)) (fun a7 v7 W7 h7 d7 hR7 => ?_)
    obtain ⟨M7, G7⟩ := hR7
    replace d7 := d7.trans d6
    have F7 := Fr.comp F6 G7 (by intro x hx; left; simp at hx; subst hx; simp)
    replace h7 := sub_ok (E := [(0, .s 3 0 32 32), (1, .p 0 0), (4, .p 1 0), (5, .p 2 0)]) h7 ⟨by kernel_rfl, by kernel_rfl, by kernel_rfl, by kernel_rfl, trivial⟩
    clear h6 P7
    show Code.wp _ _ _ _ _
    refine wp_seq ?_
    refine reg_call_keep (S := fun W => Mw (bg [⟨g, T, 16, stm s m⟩, ⟨w.heap.size, 61, 4, (fun _ => .int .u64 0)⟩, ⟨w.heap.size + 1, 71, 32, (fun _ => .int .u8 0)⟩, ⟨ob, To, no, om⟩]) [⟨g, T, 16, stm sf m⟩, ⟨w.heap.size, 61, 4, pm⟩, ⟨w.heap.size + 1, 71, 32, tm⟩, ⟨ob, To, no, (putB (putB om 0 (red0 (add2 sf 0 8) (add2 sf 1 9) (add2 sf 4 12) (add2 sf 5 13))) 8 (red1 (add2 sf 0 8) (add2 sf 1 9) (add2 sf 4 12) (add2 sf 5 13)))⟩] W ∧ Fr [g, ob] w W) (N := 267) (T := TT) (M := bm [⟨g, T, 16, stm sf m⟩, ⟨w.heap.size, 61, 4, pm⟩, ⟨w.heap.size + 1, 71, 32, tm⟩, ⟨ob, To, no, (putB (putB om 0 (red0 (add2 sf 0 8) (add2 sf 1 9) (add2 sf 4 12) (add2 sf 5 13))) 8 (red1 (add2 sf 0 8) (add2 sf 1 9) (add2 sf 4 12) (add2 sf 5 13)))⟩]) (j := 36) (l1 := [0, 1, 2, 3, 4, 5, 6, 7, 8, 9, 10, 11, 12, 13, 14, 15, 16, 17, 18, 19, 20, 21, 22, 23, 24, 25, 26, 27, 28, 29, 30, 31, 32, 33, 34, 35]) (l2 := [37, 38, 39, 40, 41]) (f := 52) (d := 254) (v := .tuple #[.int .u64 (red0 (add2 sf 2 10) (add2 sf 3 11) (add2 sf 6 14) (add2 sf 7 15)), .int .u64 (red1 (add2 sf 2 10) (add2 sf 3 11) (add2 sf 6 14) (add2 sf 7 15))]) (args := [.v (.int .u64 (add2 sf 2 10)), .v (.int .u64 (add2 sf 3 11)), .v (.int .u64 (add2 sf 6 14)), .v (.int .u64 (add2 sf 7 15))]) (E2 := [(0, .s 3 0 32 32), (1, .p 0 0), (4, .p 1 0), (5, .p 2 0), (8, .v (.int .u64 (red0 (add2 sf 2 10) (add2 sf 3 11) (add2 sf 6 14) (add2 sf 7 15)))), (9, .v (.int .u64 (red1 (add2 sf 2 10) (add2 sf 3 11) (add2 sf 6 14) (add2 sf 7 15))))]) (by kernel_rfl) tabOk (fun W h => h.1.mem) h7 ⟨M7.drew, F7.drew⟩ rfl (by kernel_rfl) (by kernel_rfl) Tryd.func52 rfl rfl
      (fun W hW => (red_walk (add2 sf 2 10) (add2 sf 3 11) (add2 sf 6 14) (add2 sf 7 15) W).mono fun e W' hh => ⟨hh.1, hW.1.onB hh.2.below, hW.2.trans (Fr.ofBelow _ hh.2.below)⟩) (by kernel_rfl) ⟨by kernel_rfl, by kernel_rfl, by kernel_rfl, by kernel_rfl, by kernel_rfl, by kernel_rfl, trivial⟩ (fun _ _ _ _ hd h => And.intro (hd.trans (And.left h)) (And.right h)) (fun a8 W8 h8 d8 hR8 => ?_)
    obtain ⟨M8, F8⟩ := hR8
    replace d8 := d8.trans d7
    clear h7
    show Code.wp _ _ _ _ _
    refine wp_seq ?_
    have P9 := put_bl (M8.drew.2.get (k := 3) rfl) 16 16 16 (red0 (add2 sf 2 10) (add2 sf 3 11) (add2 sf 6 14) (add2 sf 7 15)) (by decide) (by show 24 ≤ no; omega)
    refine reg_call_last (N := 267) (T := TT) (j := 4) (l1 := [0, 1, 2, 3]) (f := 51) (d := 261) (args := [.v (.agg #[]), .s 3 16 16 16, .v (.int .u64 (red0 (add2 sf 2 10) (add2 sf 3 11) (add2 sf 6 14) (add2 sf 7 15)))]) (E2 := [(0, .s 3 0 32 32), (1, .p 0 0), (4, .p 1 0), (5, .p 2 0), (8, .v (.int .u64 (red0 (add2 sf 2 10) (add2 sf 3 11) (add2 sf 6 14) (add2 sf 7 15)))), (9, .v (.int .u64 (red1 (add2 sf 2 10) (add2 sf 3 11) (add2 sf 6 14) (add2 sf 7 15))))]) (by kernel_rfl) tabOk h8 M8.mem rfl (by kernel_rfl) (by kernel_rfl) Tryd.func51 rfl rfl (fun v W' => Mw (bg [⟨g, T, 16, stm s m⟩, ⟨w.heap.size, 61, 4, (fun _ => .int .u64 0)⟩, ⟨w.heap.size + 1, 71, 32, (fun _ => .int .u8 0)⟩, ⟨ob, To, no, om⟩]) [⟨g, T, 16, stm sf m⟩, ⟨w.heap.size, 61, 4, pm⟩, ⟨w.heap.size + 1, 71, 32, tm⟩, ⟨ob, To, no, (putB (putB (putB om 0 (red0 (add2 sf 0 8) (add2 sf 1 9) (add2 sf 4 12) (add2 sf 5 13))) 8 (red1 (add2 sf 0 8) (add2 sf 1 9) (add2 sf 4 12) (add2 sf 5 13))) 16 (red0 (add2 sf 2 10) (add2 sf 3 11) (add2 sf 6 14) (add2 sf 7 15)))⟩] W' ∧ Fr [ob] W8 W')
      (P9.mono fun e W' hh => ⟨_, hh.1, (M8.drew.rep 3 rfl hh.2.2 hh.2.1 : Mw _ (bset _ 3 _) W'), hh.2.2⟩) ⟨by kernel_rfl, by kernel_rfl, by kernel_rfl, by kernel_rfl, by kernel_rfl, by kernel_rfl, trivial⟩ rfl (fun _ _ _ _ hd h => And.intro (hd.trans (And.left h)) (And.right h)) (fun a9 v9 W9 h9 d9 hR9 => ?_)
    obtain ⟨M9, G9⟩ := hR9
    replace d9 := d9.trans d8
    have F9 := Fr.comp F8 G9 (by intro x hx; left; simp at hx; subst hx; simp)
    replace h9 := sub_ok (E := [(0, .s 3 0 32 32), (1, .p 0 0), (4, .p 1 0), (5, .p 2 0), (8, .v (.int .u64 (red0 (add2 sf 2 10) (add2 sf 3 11) (add2 sf 6 14) (add2 sf 7 15)))), (9, .v (.int .u64 (red1 (add2 sf 2 10) (add2 sf 3 11) (add2 sf 6 14) (add2 sf 7 15))))]) h9 ⟨by kernel_rfl, by kernel_rfl, by kernel_rfl, by kernel_rfl, by kernel_rfl, by kernel_rfl, trivial⟩
    clear h8 P9
    show Code.wp _ _ _ _ _
    have P10 := put_bl (M9.drew.2.get (k := 3) rfl) 24 8 8 (red1 (add2 sf 2 10) (add2 sf 3 11) (add2 sf 6 14) (add2 sf 7 15)) (by decide) (by show 32 ≤ no; omega)
    refine reg_call_last (N := 267) (T := TT) (j := 4) (l1 := [0, 1, 2, 3]) (f := 51) (d := 266) (args := [.v (.agg #[]), .s 3 24 8 8, .v (.int .u64 (red1 (add2 sf 2 10) (add2 sf 3 11) (add2 sf 6 14) (add2 sf 7 15)))]) (E2 := [(0, .s 3 0 32 32), (1, .p 0 0), (4, .p 1 0), (5, .p 2 0)]) (by kernel_rfl) tabOk h9 M9.mem rfl (by kernel_rfl) (by kernel_rfl) Tryd.func51 rfl rfl (fun v W' => Mw (bg [⟨g, T, 16, stm s m⟩, ⟨w.heap.size, 61, 4, (fun _ => .int .u64 0)⟩, ⟨w.heap.size + 1, 71, 32, (fun _ => .int .u8 0)⟩, ⟨ob, To, no, om⟩]) [⟨g, T, 16, stm sf m⟩, ⟨w.heap.size, 61, 4, pm⟩, ⟨w.heap.size + 1, 71, 32, tm⟩, ⟨ob, To, no, (putB (putB (putB (putB om 0 (red0 (add2 sf 0 8) (add2 sf 1 9) (add2 sf 4 12) (add2 sf 5 13))) 8 (red1 (add2 sf 0 8) (add2 sf 1 9) (add2 sf 4 12) (add2 sf 5 13))) 16 (red0 (add2 sf 2 10) (add2 sf 3 11) (add2 sf 6 14) (add2 sf 7 15))) 24 (red1 (add2 sf 2 10) (add2 sf 3 11) (add2 sf 6 14) (add2 sf 7 15)))⟩] W' ∧ Fr [ob] W9 W')
      (P10.mono fun e W' hh => ⟨_, hh.1, (M9.drew.rep 3 rfl hh.2.2 hh.2.1 : Mw _ (bset _ 3 _) W'), hh.2.2⟩) ⟨by kernel_rfl, by kernel_rfl, by kernel_rfl, by kernel_rfl, trivial⟩ rfl (fun _ _ _ _ hd h => And.intro (hd.trans (And.left h)) (And.right h)) (fun a10 v10 W10 h10 d10 hR10 => ?_)
    obtain ⟨M10, G10⟩ := hR10
    replace d10 := d10.trans d9
    have F10 := Fr.comp F9 G10 (by intro x hx; left; simp at hx; subst hx; simp)
    replace h10 := sub_ok (E := [(0, .s 3 0 32 32), (1, .p 0 0), (4, .p 1 0), (5, .p 2 0)]) h10 ⟨by kernel_rfl, by kernel_rfl, by kernel_rfl, by kernel_rfl, trivial⟩
    clear h9 P10
    refine in_normal ?_
    subst hsf
    exact ⟨d10, _, results_none rfl _ _ _, rfl, M10.2.get (k := 3) rfl, F10⟩
end Go.Proofs.YtnehminojlocoaaDoor.PAll
namespace Go.Proofs.YtnehminojlocoaaDoor.PAll
open Go.RowKit Go.Proofs.YtnehminojlocoaaDoorW.PrintWords Go.Proofs.YtnehminojlocoaaDoorW.PrintLast Go.Proofs.YtnehminojlocoaaDoorW.PrintMore
set_option linter.unusedVariables false
set_option linter.unusedSimpArgs false
theorem splice_at (l cs : List Value) (o : Nat) (ho : o + cs.length ≤ l.length) (i : Nat) : (l.take o ++ cs ++ l.drop (o + cs.length))[i]? = if o ≤ i ∧ i < o + cs.length then cs[i - o]? else l[i]? := by
  rw [List.append_assoc, List.getElem?_append, List.length_take, Nat.min_eq_left (by omega)]
  split
  · rw [if_neg (by omega), List.getElem?_take_of_lt (by assumption)]
  · rw [List.getElem?_append]
    split
    · rw [if_pos (by omega)]
    · rw [if_neg (by omega), List.getElem?_drop]
      congr 1
      omega
def cpB (m : Nat → Value) (o k : Nat) (f : Nat → Value) : Nat → Value := fun i => if o ≤ i ∧ i < o + k then f (i - o) else m i
section
variable {P : Program}
theorem copy_in {W : World} {bd : Bl} (hd : bd.In W) (od nd cd b os ns cs k : Nat) (f : Nat → Value) (hk : k = Nat.min ns nd) (ho : od + k ≤ bd.n) (hs : ∀ j, j < k → W.cell? ⟨b, os + j, none⟩ = some (f j)) (h1 : ∀ j, j < k → (f j).oneCell' = true)
    (dT sT ty elem : TypeId) (hu : P.underlying dT = some (.slice elem)) (hz : (P.info? elem).map (·.size) = some 1) :
    ∃ W', (Builtin.copy_ #[dT, sT] ty #[.slice (some ⟨bd.g, od, none⟩) nd cd, .slice (some ⟨b, os, none⟩) ns cs]).run P W = .ok (goInt k) W' ∧ (⟨bd.g, bd.T, bd.n, cpB bd.m od k f⟩ : Bl).In W' ∧ Fr [bd.g] W W' := by
  obtain ⟨cur, h2, h3, h4⟩ := hd
  have hl : ((List.range k).map f).length = k := by simp
  have hr := run_copy_row (P := P) W dT sT ty elem bd.g od nd cd ⟨b, os, none⟩ ns cs cur bd.T ((List.range k).map f) hu hz h2 (by rw [hl]; exact hk) (fun j v hj => ?_) (by rw [hl, h3]; exact ho) (fun v hv => ?_)
  · rw [hl] at hr
    refine ⟨_, hr, ⟨_, setRow_heap W bd.g cur _ bd.T (0, 0) h2, ?_, fun i hi => ?_⟩, (Fr.refl _ _).row bd.g (by simp) _⟩
    · rw [List.size_toArray, List.length_append, List.length_append, List.length_take, List.length_drop, hl, Array.length_toList, h3]
      show _ = bd.n
      omega
    · have hi' : i < bd.n := hi
      have hs := splice_at cur.toList ((List.range k).map f) od (by rw [hl, Array.length_toList, h3]; exact ho) i
      rw [hl] at hs
      rw [List.getElem?_toArray, hs]
      show _ = some (cpB bd.m od k f i)
      unfold cpB
      split
      · next h =>
        rw [List.getElem?_map, List.getElem?_range (by omega)]
        rfl
      · rw [Array.getElem?_toList]
        exact h4 i hi'
  · rw [List.getElem?_map] at hj
    obtain ⟨j', hj', rfl⟩ := Option.map_eq_some_iff.1 hj
    have hlt : j < k := by
      have := (List.getElem?_eq_some_iff.1 hj').1
      simpa using this
    rw [List.getElem?_range hlt] at hj'
    obtain rfl := Option.some.inj hj'
    have e : (Addr.add ⟨b, os, none⟩ j) = ⟨b, os + j, none⟩ := by
      by_cases h0 : j = 0
      · simp [h0, Addr.add]
      · simp [h0, Addr.add]
    rw [e]
    exact hs j hlt
  · obtain ⟨j, hj, rfl⟩ := List.mem_map.1 hv
    exact h1 j (by simpa using hj)
variable {ops : Array Oper} {Q : Exit → Act → World → Prop} {N : Nat} {β : Nat → Nat} {T : TypeId → Option Ty}
/-- What a copy copies. -/
def cpV (N : Nat) (ops : Array Oper) (j : Nat) (r : Option (List (Nat × SV))) : Option (Nat × TypeId × TypeId × SV × SV) :=
  match r, ops[j]? with
  | some E, some o => match o.op, o.guard, o.dst with
    | .call c, none, some d => match c.callee, c.args, c.argTypes, Nat.blt d N with
      | .builtin .copy, ⟨[x, y]⟩, ⟨[t1, t2]⟩, true => match evO E x, evO E y with
        | some sx, some sy => some (d, t1, t2, sx, sy)
        | _, _ => none
      | _, _, _, _ => none
    | _, _, _ => none
  | _, _ => none
theorem op_copy {ρ : Operand → Value} {o : Oper} {x y : Operand} {ats : Array TypeId} {v : Value} {W W' : World} (ho : o.op = .call { callee := .builtin .copy, args := #[x, y], argTypes := ats }) (h : (Builtin.copy_ ats o.type #[ρ x, ρ y]).run P W = .ok v W') : (execOp ρ o).run P W = .ok (.value v) W' := by
  unfold execOp
  rw [ho]
  simp [go_sem, resolve, invoke, builtin]
  rw [h]
  rfl
theorem cpV_ok {j d : Nat} {t1 t2 : TypeId} {sx sy : SV} {r : Option (List (Nat × SV))} (h : cpV N ops j r = some (d, t1, t2, sx, sy)) : ∃ E o, r = some E ∧ ops[j]? = some o ∧ o.guard = none ∧ o.dst = some d ∧ d < N ∧
    ∀ (a : Act) (W W' : World) (v : Value), Has N β E a → (Builtin.copy_ #[t1, t2] o.type #[sx.den β, sy.den β]).run P W = .ok v W' → (execOp a.eval o).run P W = .ok (.value v) W' := by
  unfold cpV at h
  split at h
  · next E o ho =>
    split at h
    · next c d0 hop hg hd =>
      split at h
      · next x y t1' t2' hc ha ht hN =>
        split at h
        · next sx' sy' hx hy =>
          simp only [Option.some.injEq, Prod.mk.injEq] at h
          obtain ⟨rfl, rfl, rfl, rfl, rfl⟩ := h
          obtain ⟨callee, args, ats⟩ := c
          obtain rfl : callee = _ := hc
          obtain rfl : args = _ := ha
          obtain rfl : ats = _ := ht
          refine ⟨E, o, rfl, ho, hg, hd, Eq.mp Nat.blt_eq hN, fun a W W' v hA hr => op_copy hop ?_⟩
          rw [evO_ok hA hx, evO_ok hA hy]
          exact hr
        · cases h
      · cases h
    · cases h
  · cases h
/-- A region that draws its order: pure operations, then a copy. -/
theorem regM_copy {id n d : Nat} {t1 t2 : TypeId} {sx sy : SV} {v : Value} {a : Act} {w : World} {L : List Bl} {E E2 : List (Nat × SV)} (hm : P.follows .mixedOrders = true) (hT : TabOk P T) (hA : Has N β E a) (hM : Mw β L w) (hn : ops.size = 1 + (List.range n).length)
    (hB : clB ops (List.range n) n = true) (hcp : cpV N ops n (evs N T (bm L) ops (List.range n) E) = some (d, t1, t2, sx, sy)) (R : World → Prop) (hrun : ∀ ty, ∃ W', (Builtin.copy_ #[t1, t2] ty #[sx.den β, sy.den β]).run P w.drew = .ok v W' ∧ R W')
    (hsub : Sub (evs N T (bm L) ops (List.range n) E) E2) (hnd : look E2 d = none) (hQ : ∀ c (a a' : Act) w, a'.defers = a.defers → Q (.panic c) a w → Q (.panic c) a' w)
    (h : ∀ a' W, Has N β ((d, .v v) :: E2) a' → a'.defers = a.defers → R W → Q .normal a' W) : (Code.region id ops true).wp P Q a w := by
  simp only [clB, Bool.and_eq_true] at hB
  obtain ⟨hB1, hB2, hB4⟩ := hB
  obtain ⟨E1, o, he, ho, hg, hd, hN, hop⟩ := cpV_ok (P := P) (β := β) hcp
  have hsub2 : Sub (some E1) E2 := by
    rw [← he]
    exact hsub
  refine start_ (S := MemOk β (bm L)) (ds := [n]) (n := 1 + (List.range n).length) _ hm hn rfl hM.mem.drew (fun hH => ?_)
  refine seg_ (P := P) (ops := ops) (Q := Q) (S := MemOk β (bm L)) (ds := [n]) (N := N) (β := β) (M := bm L) (T := T) hT (fun W hW => hW) hQ (fuel := 1) (w := w.drew) hH (List.range n) (L := Array.replicate (1 + (List.range n).length) false) (E := E) (E' := E1) (a := a) hB1 he hA (fun a1 h1 h2 => ?_)
  refine last_ (i := n) (N := some d) _ ho hd hB2 (by simp) (fun K hK => ?_)
  obtain ⟨W', hr, hR⟩ := hrun o.type
  refine value_ (want_ hg) hd (hop a1 w.drew W' v h1 hr) ?_
  refine hK.out _ _ (done_ hB4 (h _ W' ?_ ((put_defs _ _ _).trans h2) hR))
  exact sub_ok (E := (d, .v v) :: E2) (h1.put d hN (.v v)) ⟨by simp [look], sub_cons hnd hsub2⟩
theorem copy_ops {i d : Nat} {t1 t2 : TypeId} {sx sy : SV} {v : Value} {l : List Nat} {a : Act} {w : World} {E : List (Nat × SV)} (hA : Has N β E a) (hcp : cpV N ops i (some E) = some (d, t1, t2, sx, sy)) (R : World → Prop) (hrun : ∀ ty, ∃ W', (Builtin.copy_ #[t1, t2] ty #[sx.den β, sy.den β]).run P w = .ok v W' ∧ R W')
    (h : ∀ a' W, Has N β ((d, .v v) :: E) a' → a'.defers = a.defers → R W → wpOps P ops Q l a' W) : wpOps P ops Q (i :: l) a w := by
  obtain ⟨E1, o, he, ho, hg, hd, hN, hop⟩ := cpV_ok (P := P) (β := β) hcp
  obtain rfl := Option.some.inj he
  obtain ⟨W', hr, hR⟩ := hrun o.type
  unfold wpOps
  simp only [ho]
  rw [if_pos (want_ hg)]
  refine Or.inl ?_
  unfold Oper.wp
  rw [hop a w W' v hA hr, Oper.upon_value, hd]
  exact h _ W' (hA.put d hN (.v v)) rfl hR
end
section
variable {P : Program} {ops : Array Oper} {Q : Exit → Act → World → Prop} {N : Nat} {β : Nat → Nat} {T : TypeId → Option Ty}
/-- A slice expression, a call that keeps the known blocks and X, a store; over known blocks. -/
theorem regM_scs (X : World → Prop) {id js j n k i f d d0 l0 : Nat} {l1 l2 : List Nat} {t0 : TypeId} {x0 : Operand} {u v vx v0 vk : Value} {args : List SV} {fn : Func} {a : Act} {w : World} {L : List Bl} {E E2 : List (Nat × SV)} (hm : P.follows .mixedOrders = true) (hT : TabOk P T) (hA : Has N β E a) (hM : Mw β L w) (hX : X w.drew) (hn : ops.size = l2.length + 3 + l1.length)
    (hB : cs2B ops l1 js j l2 n = true) (hsl : slV N ops js = some (d0, t0, x0, l0)) (hx0 : (evs N T (bm L) ops l1 E).bind (evO · x0) = some (.v vx)) (hv0 : ∀ W, (Instr.sliceAt t0 vx (some (.int .i64 (l0 : Int))) none none).run P W = .ok v0 W)
    (hcl : clV N ops j ((evs N T (bm L) ops l1 E).map fun E1 => (d0, .v v0) :: E1) = some (f, d, args)) (hf : P.funcs[f]? = some fn) (hname : (fn.name == "runtime.NumGoroutine") = false) (hb : fn.body.isSome = true)
    (hC : ∀ W, Mw β L W → X W → Calls P f (args.map (SV.den β)).toArray W fun e W' => e = .returned v ∧ Mw β L W' ∧ X W')
    (hst : stV T ops n ((evs N T (bm L) ops l1 E).bind fun E1 => evs N T (bm L) ops l2 ((d, .v v) :: (d0, .v v0) :: E1)) = some (k, i, u)) (hvk : bm L k i = some vk) (hsub : Sub ((evs N T (bm L) ops l1 E).bind fun E1 => evs N T (bm L) ops l2 ((d, .v v) :: (d0, .v v0) :: E1)) E2) (hQ : ∀ c (a a' : Act) w, a'.defers = a.defers → Q (.panic c) a w → Q (.panic c) a' w)
    (h : ∀ a' W W', Has N β E2 a' → a'.defers = a.defers → X W → Mw β (bput L k i u) W' → Fr [β k] W W' → Q .normal a' W') : (Code.region id ops true).wp P Q a w := by
  refine reg_slice_call_store (S := fun W => Mw β L W ∧ X W) hm hT (fun W hW => hW.1.mem) hA ⟨hM.drew, hX⟩ hn hB hsl hx0 hv0 hcl hf hname hb (fun W hW => hC W hW.1 hW.2) hst hsub hQ (fun W hW => ?_) (fun a' W h1 h2 hS => ?_)
  · obtain ⟨⟨rfl, hW⟩, _⟩ := hW
    exact ⟨⟨_, (hW.at hvk).1⟩, (hW.at hvk).2⟩
  · obtain ⟨⟨rfl, hW⟩, hX'⟩ := hS
    exact h a' W _ h1 h2 hX' ⟨bg_put _ _ _ _, Mm.set u hW hvk⟩ ((Fr.refl [bg L k] W).set _ (by simp) u)
end
section
variable {P : Program} {ops : Array Oper} {Q : Exit → Act → World → Prop} {N : Nat} {β : Nat → Nat} {T : TypeId → Option Ty}
def optV (E : List (Nat × SV)) : Option Operand → Option (Option SV)
  | none => some none
  | some x => (evO E x).map some
theorem optV_ok {E : List (Nat × SV)} {a : Act} (hA : Has N β E a) {x : Option Operand} {s : Option SV} (h : optV E x = some s) : x.map a.eval = s.map (SV.den β) := by
  cases x with
  | none => obtain rfl := Option.some.inj h; rfl
  | some x =>
    obtain ⟨y, hy, rfl⟩ := Option.map_eq_some_iff.1 h
    show some (a.eval x) = some (y.den β)
    rw [evO_ok hA hy]
/-- A slice expression: into which slot, of what, from where to where. -/
def slG (N : Nat) (ops : Array Oper) (j : Nat) (r : Option (List (Nat × SV))) : Option (Nat × TypeId × SV × Option SV × Option SV) :=
  match r, ops[j]? with
  | some E, some o => match o.op, o.guard, o.dst with
    | .slice t x lo hi none, none, some d => match Nat.blt d N, evO E x, optV E lo, optV E hi with
      | true, some sx, some sl, some sh => some (d, t, sx, sl, sh)
      | _, _, _, _ => none
    | _, _, _ => none
  | _, _ => none
theorem slG_ok {j d : Nat} {t : TypeId} {sx : SV} {sl sh : Option SV} {r : Option (List (Nat × SV))} (h : slG N ops j r = some (d, t, sx, sl, sh)) : ∃ E o, r = some E ∧ ops[j]? = some o ∧ o.guard = none ∧ o.dst = some d ∧ d < N ∧
    ∀ (a : Act) (W : World) (v : Value), Has N β E a → (Instr.sliceAt t (sx.den β) (sl.map (SV.den β)) (sh.map (SV.den β)) none).run P W = .ok v W → (execOp a.eval o).run P W = .ok (.value v) W := by
  unfold slG at h
  split at h
  · next E o ho =>
    split at h
    · next t0 x lo hi d0 hop hg hd =>
      split at h
      · next sx' sl' sh' hN hx hl hh =>
        simp only [Option.some.injEq, Prod.mk.injEq] at h
        obtain ⟨rfl, rfl, rfl, rfl, rfl⟩ := h
        refine ⟨E, o, rfl, ho, hg, hd, Eq.mp Nat.blt_eq hN, fun a W v hA hr => op_slice hop ?_⟩
        rw [evO_ok hA hx, optV_ok hA hl, optV_ok hA hh]
        exact hr
      · cases h
    · cases h
  · cases h
def scB (ops : Array Oper) (l1 : List Nat) (js j : Nat) : Bool :=
  let L0 := Array.replicate (2 + l1.length) false
  let L1 := marks l1 L0
  let L1' := L1.setIfInBounds js true
  let L2 := L1'.setIfInBounds j true
  schedB ops [j] l1 L0 && (takeB .any ops [j] L1 L1' js && (readyB .any ops L1' L2 j && (Region.ready .any ops L2 == [])))
/-- A region that draws its order: pure operations, a slice expression shown by hand, a copy. -/
theorem regM_scopy {id js j d d0 : Nat} {l1 : List Nat} {t0 t1 t2 : TypeId} {sx sy sx0 s0 : SV} {sl sh : Option SV} {v : Value} {a : Act} {w : World} {L : List Bl} {E E2 : List (Nat × SV)} (hm : P.follows .mixedOrders = true) (hT : TabOk P T) (hA : Has N β E a) (hM : Mw β L w) (hn : ops.size = 2 + l1.length)
    (hB : scB ops l1 js j = true) (hsl : slG N ops js (evs N T (bm L) ops l1 E) = some (d0, t0, sx0, sl, sh)) (hv0 : ∀ W, (Instr.sliceAt t0 (sx0.den β) (sl.map (SV.den β)) (sh.map (SV.den β)) none).run P W = .ok (s0.den β) W)
    (hcp : cpV N ops j ((evs N T (bm L) ops l1 E).map fun E1 => (d0, s0) :: E1) = some (d, t1, t2, sx, sy)) (R : World → Prop) (hrun : ∀ ty, ∃ W', (Builtin.copy_ #[t1, t2] ty #[sx.den β, sy.den β]).run P w.drew = .ok v W' ∧ R W')
    (hsub : Sub (evs N T (bm L) ops l1 E) E2) (hnd : look E2 d = none) (hnd0 : look E2 d0 = none) (hQ : ∀ c (a a' : Act) w, a'.defers = a.defers → Q (.panic c) a w → Q (.panic c) a' w)
    (h : ∀ a' W, Has N β E2 a' → a'.defers = a.defers → R W → Q .normal a' W) : (Code.region id ops true).wp P Q a w := by
  simp only [scB, Bool.and_eq_true] at hB
  obtain ⟨hB1, hBs, hB2, hB4⟩ := hB
  obtain ⟨E1, os, he1, hos, hgs, hds, hNs, hops⟩ := slG_ok (P := P) (β := β) hsl
  rw [he1, Option.map_some] at hcp
  obtain ⟨E1', o, he, ho, hg, hd, hN, hop⟩ := cpV_ok (P := P) (β := β) hcp
  obtain rfl := Option.some.inj he
  have hsub2 : Sub (some E1) E2 := by
    rw [← he1]
    exact hsub
  refine start_ (S := MemOk β (bm L)) (ds := [j]) (n := 2 + l1.length) _ hm hn rfl hM.mem.drew (fun hH => ?_)
  refine seg_ (P := P) (ops := ops) (Q := Q) (S := MemOk β (bm L)) (ds := [j]) (N := N) (β := β) (M := bm L) (T := T) hT (fun W hW => hW) hQ (fuel := 2) (w := w.drew) hH l1 (L := Array.replicate (2 + l1.length) false) (E := E) (E' := E1) (a := a) hB1 he1 hA (fun a1 h1 h2 => ?_)
  refine take_ (i := js) (N := some d0) (v := s0.den β) (a' := a1.put (some d0) (s0.den β)) _ hos hds hBs (fun c a w h => hQ c _ _ w (put_defs _ _ _).symm h) (Or.inl ⟨want_ hgs, fun W hW => hops a1 W _ h1 (hv0 W)⟩) hH rfl ?_
  have h1' := h1.put d0 hNs s0
  refine last_ (i := j) (N := some d) _ ho hd hB2 (by simp) (fun K hK => ?_)
  obtain ⟨W', hr, hR⟩ := hrun o.type
  refine value_ (want_ hg) hd (hop _ w.drew W' v h1' hr) ?_
  refine hK.out _ _ (done_ hB4 (h _ W' ?_ ((put_defs _ _ _).trans ((put_defs _ _ _).trans h2)) hR))
  exact sub_ok (h1'.put d hN (.v v)) (sub_cons hnd (sub_cons hnd0 hsub2))
end
theorem p32_get (cur : Array Value) (o : Nat) (v : Int) (i : Nat) (ho : o + 4 ≤ cur.size) (hi : i < cur.size) : (p32C cur o v)[i]? = if o ≤ i ∧ i < o + 4 then some (.int .u8 (byt v (i - o))) else cur[i]? := by
  unfold p32C
  by_cases h : o ≤ i ∧ i < o + 4
  · rw [if_pos h]
    obtain ⟨j, hj, rfl⟩ : ∃ j, j < 4 ∧ i = o + j := ⟨i - o, by omega, by omega⟩
    rw [Nat.add_sub_cancel_left]
    match j, hj with
    | 0, _ => simp [Array.getElem?_setIfInBounds, byt]; omega
    | 1, _ => simp [Array.getElem?_setIfInBounds, byt]; omega
    | 2, _ => simp [Array.getElem?_setIfInBounds, byt]; omega
    | 3, _ => simp [Array.getElem?_setIfInBounds, byt]; omega
  · rw [if_neg h]
    simp only [Array.getElem?_setIfInBounds]
    repeat rw [if_neg (by omega)]
def putW (m : Nat → Value) (o : Nat) (v : Int) : Nat → Value := fun i => if o ≤ i ∧ i < o + 4 then .int .u8 (byt v (i - o)) else m i
theorem put32_bl {b : Bl} {w : World} (h : b.In w) (o n c : Nat) (v : Int) (hn : 4 ≤ n) (ho : o + 4 ≤ b.n) :
    Calls Tryd.prog 48 #[.agg #[], .slice (some ⟨b.g, o, none⟩) n c, .int .u32 v] w fun e w' => e = .returned (.tuple #[]) ∧ (⟨b.g, b.T, b.n, putW b.m o v⟩ : Bl).In w' ∧ Fr [b.g] w w' := by
  obtain ⟨cs, h1, h2, h3⟩ := h
  refine (p32_walk b.g b.T o n c v hn cs w h1 (by omega)).mono fun e w' hh => ⟨hh.1, ⟨_, hh.2.1, ?_, fun i hi => ?_⟩, hh.2.2⟩
  · unfold p32C
    simp only [Array.size_setIfInBounds]
    exact h2
  · have hi' : i < b.n := hi
    rw [p32_get cs o v i (by omega) (by omega)]
    show _ = some (putW b.m o v i)
    unfold putW
    split
    · rfl
    · exact h3 i hi
end Go.Proofs.YtnehminojlocoaaDoor.PAll
namespace Go.Proofs.YtnehminojlocoaaDoor.PAll
open Go.RowKit Go.Proofs.YtnehminojlocoaaDoorW.PrintWords Go.Proofs.YtnehminojlocoaaDoorW.PrintLast Go.Proofs.YtnehminojlocoaaDoorW.PrintMore
set_option linter.unusedVariables false
set_option linter.unusedSimpArgs false
def I0 : Nat → Int
  | 0 => 15845587454020865583
  | 1 => 11820040416388919760
  | 2 => 1376283091369227076
  | _ => 2611923443488327891
def I1 : Nat → Int
  | 0 => 4310963063287117203
  | 1 => 13883737187602762380
  | 2 => 13714699805381954668
  | _ => 4983270260364809079
/-- The key's numbers. -/
def keyN (x : Nat → Int) (i : Nat) : Int := le8 (fun j => x (8 * i + j))
/-- A state at the beginning. -/
def ini (k : Nat → Int) (i : Nat) : Int :=
  if i < 4 then Go.bits .xor .u64 (I0 i) (k i) else if i < 8 then Go.bits .xor .u64 (I1 (i - 4)) (rot32 (k (i - 4))) else if i < 12 then I0 (i - 8) else I1 (i - 12)
theorem Bl.In.eq {b : Bl} {W : World} (h : b.In W) {m : Nat → Value} (hm : ∀ i, i < b.n → b.m i = m i) : (⟨b.g, b.T, b.n, m⟩ : Bl).In W := by
  obtain ⟨cs, h1, h2, h3⟩ := h
  exact ⟨cs, h1, h2, fun i hi => by rw [h3 i hi, hm i hi]⟩
theorem Bts.far {b o n : Nat} {x : Nat → Int} {W W' : World} {g : Nat} (h : Bts b o n x W) (h' : Fr [g] W W') (hb : b ≠ g) : Bts b o n x W' := h.on h' (by simpa using hb)
noncomputable def ini3 : Code := match Tryd.f46.body with
  | some (.seq _ (.seq _ (.seq _ (.seq c _)))) => c
  | _ => .skip
noncomputable def ini4 : Code := match Tryd.f46.body with
  | some (.seq _ (.seq _ (.seq _ (.seq _ c)))) => c
  | _ => .skip
theorem ini_fin (k : Nat → Int) (m : Nat → Value) (i : Nat) (h : i < 16) : (upm (upm (upm (upm (upm (upm (upm (upm (cpB (cpB m 8 4 (fun j => .int .u64 (I0 (0 + j)))) 12 4 (fun j => .int .u64 (I1 (0 + j)))) 0 (.int .u64 (Go.bits .xor .u64 (I0 0) (k 0)))) 1 (.int .u64 (Go.bits .xor .u64 (I0 1) (k 1)))) 2 (.int .u64 (Go.bits .xor .u64 (I0 2) (k 2)))) 3 (.int .u64 (Go.bits .xor .u64 (I0 3) (k 3)))) 4 (.int .u64 (Go.bits .xor .u64 (I1 0) (rot32 (k 0))))) 5 (.int .u64 (Go.bits .xor .u64 (I1 1) (rot32 (k 1))))) 6 (.int .u64 (Go.bits .xor .u64 (I1 2) (rot32 (k 2))))) 7 (.int .u64 (Go.bits .xor .u64 (I1 3) (rot32 (k 3))))) i = .int .u64 (ini k i) := by
  rcases (by omega : i = 0 ∨ i = 1 ∨ i = 2 ∨ i = 3 ∨ i = 4 ∨ i = 5 ∨ i = 6 ∨ i = 7 ∨ i = 8 ∨ i = 9 ∨ i = 10 ∨ i = 11 ∨ i = 12 ∨ i = 13 ∨ i = 14 ∨ i = 15) with rfl | rfl | rfl | rfl | rfl | rfl | rfl | rfl | rfl | rfl | rfl | rfl | rfl | rfl | rfl | rfl
  all_goals rfl
theorem ini_far (k : Nat → Int) (m : Nat → Value) (i : Nat) (h : ¬ i < 16) : (upm (upm (upm (upm (upm (upm (upm (upm (cpB (cpB m 8 4 (fun j => .int .u64 (I0 (0 + j)))) 12 4 (fun j => .int .u64 (I1 (0 + j)))) 0 (.int .u64 (Go.bits .xor .u64 (I0 0) (k 0)))) 1 (.int .u64 (Go.bits .xor .u64 (I0 1) (k 1)))) 2 (.int .u64 (Go.bits .xor .u64 (I0 2) (k 2)))) 3 (.int .u64 (Go.bits .xor .u64 (I0 3) (k 3)))) 4 (.int .u64 (Go.bits .xor .u64 (I1 0) (rot32 (k 0))))) 5 (.int .u64 (Go.bits .xor .u64 (I1 1) (rot32 (k 1))))) 6 (.int .u64 (Go.bits .xor .u64 (I1 2) (rot32 (k 2))))) 7 (.int .u64 (Go.bits .xor .u64 (I1 3) (rot32 (k 3))))) i = m i := by
  unfold upm cpB
  repeat rw [if_neg (by omega)]
set_option maxHeartbeats 16000000 in
set_option maxRecDepth 100000 in
theorem ini_rest (g T ex p0 p1 p2 kb ko kc : Nat) (x : Nat → Int) (m : Nat → Value) (w W0 : World) (a0 : Act) (hkc : 32 ≤ kc) (hb2 : kb ≠ p2) (hp0 : w.heap.size ≤ p0) (hp1 : w.heap.size ≤ p1) (hp2 : w.heap.size ≤ p2) (β : Nat → Nat) (K : Act → World → Prop)
    (hK : ∀ a W, Code.wp Tryd.prog ini4 (bodyPost Tryd.prog Tryd.f46 fun e w' => e = .returned (.tuple #[]) ∧ (⟨g, T, ex + 16, stm (ini (keyN x)) m⟩ : Bl).In w' ∧ Fr [g] w w') a W → K a W)
    (M0 : Mw β [⟨g, T, (ex + 16), m⟩, ⟨p0, 61, 4, (fun i => .int .u64 (I0 i))⟩, ⟨p1, 61, 4, (fun i => .int .u64 (I1 i))⟩, ⟨p2, 61, 4, (fun _ => .int .u64 0)⟩] W0) (BT : Bts kb ko 32 x W0) (F0 : Fr [g] w W0) (h0 : Has 107 β [(0, .p 0 0), (1, .v (.slice (some ⟨kb, ko, none⟩) 32 kc)), (4, .p 1 0), (5, .p 2 0), (6, .p 3 0)] a0) (d0 : a0.defers = []) :
    Code.wp Tryd.prog ini3 (Exit.then K (bodyPost Tryd.prog Tryd.f46 fun e w' => e = .returned (.tuple #[]) ∧ (⟨g, T, ex + 16, stm (ini (keyN x)) m⟩ : Bl).In w' ∧ Fr [g] w w')) a0 W0 := by
  obtain ⟨rfl, _⟩ := id M0
  refine regM_scs (X := fun W => Bts kb ko 32 x W ∧ Fr [g] w W) (N := 107) (T := TT) (l1 := [0, 1]) (js := 2) (j := 3) (l2 := [4]) (n := 5) (k := 3) (i := 0) (f := 43) (d := 16) (d0 := 15) (x0 := .tmp 14) (l0 := 0) (t0 := 22) (vx := .slice (some ⟨kb, ko, none⟩) 32 kc) (v0 := .slice (some ⟨kb, ko + 0, none⟩) (32 - 0) (kc - 0)) (u := .int .u64 (keyN x 0)) (v := .int .u64 (keyN x 0)) (args := [.v (.agg #[]), .v (.slice (some ⟨kb, ko + 0, none⟩) (32 - 0) (kc - 0))]) (E2 := [(0, .p 0 0), (1, .v (.slice (some ⟨kb, ko, none⟩) 32 kc)), (4, .p 1 0), (5, .p 2 0), (6, .p 3 0)]) (by kernel_rfl) tabOk h0 M0 ⟨BT, F0.drew⟩ rfl (by kernel_rfl) (by kernel_rfl) (by kernel_rfl) (fun W => sl_at W kb ko 32 kc 0 (by decide) hkc (by omega)) (by kernel_rfl) Tryd.func43 rfl rfl
    (fun W hM hX => (u64_walk kb (ko + 0) _ _ (by decide) (fun j => x (0 + j)) W (hX.1.from 0 8 (by decide))).mono fun e W' hh => ⟨hh.1.trans (by rw [keyN]), hM.onB hh.2, hX.1.onB hh.2, hX.2.trans (Fr.ofBelow [g] hh.2)⟩)
    (by kernel_rfl) rfl ⟨by kernel_rfl, by kernel_rfl, by kernel_rfl, by kernel_rfl, by kernel_rfl, trivial⟩ (fun _ _ _ _ hd h => And.intro (hd.trans (And.left h)) (And.right h)) (fun a1 Wn W1 h1 d1 hX M1 G1 => ?_)
  refine hK _ _ ?_
  show Code.wp _ _ _ _ _
  obtain ⟨BTn, Fn⟩ := hX
  clear F0 BT
  have F0 := Fn
  have BT := BTn.far G1 hb2
  clear Fn BTn
  replace d1 := d1.trans d0
  replace M1 : Mw (bg [⟨g, T, (ex + 16), m⟩, ⟨p0, 61, 4, (fun i => .int .u64 (I0 i))⟩, ⟨p1, 61, 4, (fun i => .int .u64 (I1 i))⟩, ⟨p2, 61, 4, (fun _ => .int .u64 0)⟩]) [⟨g, T, (ex + 16), m⟩, ⟨p0, 61, 4, (fun i => .int .u64 (I0 i))⟩, ⟨p1, 61, 4, (fun i => .int .u64 (I1 i))⟩, ⟨p2, 61, 4, (upm (fun _ => .int .u64 0) 0 (.int .u64 (keyN x 0)))⟩] W1 := M1
  have F1 := Fr.comp F0 G1 (fun x hx => Or.inr (by simp at hx; subst hx; exact hp2))
  clear F0 G1
  clear h0 d0 M0
  refine wp_seq ?_
  refine regM_scs (X := fun W => Bts kb ko 32 x W ∧ Fr [g] w W) (N := 107) (T := TT) (l1 := [0, 1]) (js := 2) (j := 3) (l2 := [4]) (n := 5) (k := 3) (i := 1) (f := 43) (d := 21) (d0 := 20) (x0 := .tmp 19) (l0 := 8) (t0 := 22) (vx := .slice (some ⟨kb, ko, none⟩) 32 kc) (v0 := .slice (some ⟨kb, ko + 8, none⟩) (32 - 8) (kc - 8)) (u := .int .u64 (keyN x 1)) (v := .int .u64 (keyN x 1)) (args := [.v (.agg #[]), .v (.slice (some ⟨kb, ko + 8, none⟩) (32 - 8) (kc - 8))]) (E2 := [(0, .p 0 0), (1, .v (.slice (some ⟨kb, ko, none⟩) 32 kc)), (4, .p 1 0), (5, .p 2 0), (6, .p 3 0)]) (by kernel_rfl) tabOk h1 M1 ⟨BT, F1.drew⟩ rfl (by kernel_rfl) (by kernel_rfl) (by kernel_rfl) (fun W => sl_at W kb ko 32 kc 8 (by decide) hkc (by omega)) (by kernel_rfl) Tryd.func43 rfl rfl
    (fun W hM hX => (u64_walk kb (ko + 8) _ _ (by decide) (fun j => x (8 + j)) W (hX.1.from 8 8 (by decide))).mono fun e W' hh => ⟨hh.1.trans (by rw [keyN]), hM.onB hh.2, hX.1.onB hh.2, hX.2.trans (Fr.ofBelow [g] hh.2)⟩)
    (by kernel_rfl) rfl ⟨by kernel_rfl, by kernel_rfl, by kernel_rfl, by kernel_rfl, by kernel_rfl, trivial⟩ (fun _ _ _ _ hd h => And.intro (hd.trans (And.left h)) (And.right h)) (fun a2 Wn W2 h2 d2 hX M2 G2 => ?_)
  show Code.wp _ _ _ _ _
  obtain ⟨BTn, Fn⟩ := hX
  clear F1 BT
  have F1 := Fn
  have BT := BTn.far G2 hb2
  clear Fn BTn
  replace d2 := d2.trans d1
  replace M2 : Mw (bg [⟨g, T, (ex + 16), m⟩, ⟨p0, 61, 4, (fun i => .int .u64 (I0 i))⟩, ⟨p1, 61, 4, (fun i => .int .u64 (I1 i))⟩, ⟨p2, 61, 4, (fun _ => .int .u64 0)⟩]) [⟨g, T, (ex + 16), m⟩, ⟨p0, 61, 4, (fun i => .int .u64 (I0 i))⟩, ⟨p1, 61, 4, (fun i => .int .u64 (I1 i))⟩, ⟨p2, 61, 4, (upm (upm (fun _ => .int .u64 0) 0 (.int .u64 (keyN x 0))) 1 (.int .u64 (keyN x 1)))⟩] W2 := M2
  have F2 := Fr.comp F1 G2 (fun x hx => Or.inr (by simp at hx; subst hx; exact hp2))
  clear F1 G2
  clear h1 d1 M1
  refine wp_seq ?_
  refine regM_scs (X := fun W => Bts kb ko 32 x W ∧ Fr [g] w W) (N := 107) (T := TT) (l1 := [0, 1]) (js := 2) (j := 3) (l2 := [4]) (n := 5) (k := 3) (i := 2) (f := 43) (d := 26) (d0 := 25) (x0 := .tmp 24) (l0 := 16) (t0 := 22) (vx := .slice (some ⟨kb, ko, none⟩) 32 kc) (v0 := .slice (some ⟨kb, ko + 16, none⟩) (32 - 16) (kc - 16)) (u := .int .u64 (keyN x 2)) (v := .int .u64 (keyN x 2)) (args := [.v (.agg #[]), .v (.slice (some ⟨kb, ko + 16, none⟩) (32 - 16) (kc - 16))]) (E2 := [(0, .p 0 0), (1, .v (.slice (some ⟨kb, ko, none⟩) 32 kc)), (4, .p 1 0), (5, .p 2 0), (6, .p 3 0)]) (by kernel_rfl) tabOk h2 M2 ⟨BT, F2.drew⟩ rfl (by kernel_rfl) (by kernel_rfl) (by kernel_rfl) (fun W => sl_at W kb ko 32 kc 16 (by decide) hkc (by omega)) (by kernel_rfl) Tryd.func43 rfl rfl
    (fun W hM hX => (u64_walk kb (ko + 16) _ _ (by decide) (fun j => x (16 + j)) W (hX.1.from 16 8 (by decide))).mono fun e W' hh => ⟨hh.1.trans (by rw [keyN]), hM.onB hh.2, hX.1.onB hh.2, hX.2.trans (Fr.ofBelow [g] hh.2)⟩)
    (by kernel_rfl) rfl ⟨by kernel_rfl, by kernel_rfl, by kernel_rfl, by kernel_rfl, by kernel_rfl, trivial⟩ (fun _ _ _ _ hd h => And.intro (hd.trans (And.left h)) (And.right h)) (fun a3 Wn W3 h3 d3 hX M3 G3 => ?_)
  show Code.wp _ _ _ _ _
  obtain ⟨BTn, Fn⟩ := hX
  clear F2 BT
  have F2 := Fn
  have BT := BTn.far G3 hb2
  clear Fn BTn
  replace d3 := d3.trans d2
  replace M3 : Mw (bg [⟨g, T, (ex + 16), m⟩, ⟨p0, 61, 4, (fun i => .int .u64 (I0 i))⟩, ⟨p1, 61, 4, (fun i => .int .u64 (I1 i))⟩, ⟨p2, 61, 4, (fun _ => .int .u64 0)⟩]) [⟨g, T, (ex + 16), m⟩, ⟨p0, 61, 4, (fun i => .int .u64 (I0 i))⟩, ⟨p1, 61, 4, (fun i => .int .u64 (I1 i))⟩, ⟨p2, 61, 4, (upm (upm (upm (fun _ => .int .u64 0) 0 (.int .u64 (keyN x 0))) 1 (.int .u64 (keyN x 1))) 2 (.int .u64 (keyN x 2)))⟩] W3 := M3
  have F3 := Fr.comp F2 G3 (fun x hx => Or.inr (by simp at hx; subst hx; exact hp2))
  clear F2 G3
  clear h2 d2 M2
  refine wp_seq ?_
  refine regM_scs (X := fun W => Bts kb ko 32 x W ∧ Fr [g] w W) (N := 107) (T := TT) (l1 := [0, 1]) (js := 2) (j := 3) (l2 := [4]) (n := 5) (k := 3) (i := 3) (f := 43) (d := 31) (d0 := 30) (x0 := .tmp 29) (l0 := 24) (t0 := 22) (vx := .slice (some ⟨kb, ko, none⟩) 32 kc) (v0 := .slice (some ⟨kb, ko + 24, none⟩) (32 - 24) (kc - 24)) (u := .int .u64 (keyN x 3)) (v := .int .u64 (keyN x 3)) (args := [.v (.agg #[]), .v (.slice (some ⟨kb, ko + 24, none⟩) (32 - 24) (kc - 24))]) (E2 := [(0, .p 0 0), (1, .v (.slice (some ⟨kb, ko, none⟩) 32 kc)), (4, .p 1 0), (5, .p 2 0), (6, .p 3 0)]) (by kernel_rfl) tabOk h3 M3 ⟨BT, F3.drew⟩ rfl (by kernel_rfl) (by kernel_rfl) (by kernel_rfl) (fun W => sl_at W kb ko 32 kc 24 (by decide) hkc (by omega)) (by kernel_rfl) Tryd.func43 rfl rfl
    (fun W hM hX => (u64_walk kb (ko + 24) _ _ (by decide) (fun j => x (24 + j)) W (hX.1.from 24 8 (by decide))).mono fun e W' hh => ⟨hh.1.trans (by rw [keyN]), hM.onB hh.2, hX.1.onB hh.2, hX.2.trans (Fr.ofBelow [g] hh.2)⟩)
    (by kernel_rfl) rfl ⟨by kernel_rfl, by kernel_rfl, by kernel_rfl, by kernel_rfl, by kernel_rfl, trivial⟩ (fun _ _ _ _ hd h => And.intro (hd.trans (And.left h)) (And.right h)) (fun a4 Wn W4 h4 d4 hX M4 G4 => ?_)
  show Code.wp _ _ _ _ _
  obtain ⟨BTn, Fn⟩ := hX
  clear F3 BT
  have F3 := Fn
  have BT := BTn.far G4 hb2
  clear Fn BTn
  replace d4 := d4.trans d3
  replace M4 : Mw (bg [⟨g, T, (ex + 16), m⟩, ⟨p0, 61, 4, (fun i => .int .u64 (I0 i))⟩, ⟨p1, 61, 4, (fun i => .int .u64 (I1 i))⟩, ⟨p2, 61, 4, (fun _ => .int .u64 0)⟩]) [⟨g, T, (ex + 16), m⟩, ⟨p0, 61, 4, (fun i => .int .u64 (I0 i))⟩, ⟨p1, 61, 4, (fun i => .int .u64 (I1 i))⟩, ⟨p2, 61, 4, (upm (upm (upm (upm (fun _ => .int .u64 0) 0 (.int .u64 (keyN x 0))) 1 (.int .u64 (keyN x 1))) 2 (.int .u64 (keyN x 2))) 3 (.int .u64 (keyN x 3)))⟩] W4 := M4
  have F4 := Fr.comp F3 G4 (fun x hx => Or.inr (by simp at hx; subst hx; exact hp2))
  clear F3 G4
  clear h3 d3 M3
  refine wp_seq ?_
  have C5 := fun ty => copy_in (P := Tryd.prog) (W := W4.drew) (M4.2.get (k := 0) rfl) 8 8 8 p0 0 4 4 4 (fun j => .int .u64 (I0 (0 + j))) rfl (by show 12 ≤ ex + 16; omega) (fun j hj => (M4.2.get (k := 1) rfl).cell (0 + j) (by show 0 + j < 4; omega)) (fun j hj => rfl) 91 91 ty 31 Tryd.underlying91 (by kernel_rfl)
  refine regM_copy (N := 107) (T := TT) (n := 4) (d := 37) (t1 := 91) (t2 := 91) (sx := .s 0 8 8 8) (sy := .s 1 0 4 4) (v := goInt 4) (E2 := [(0, .p 0 0), (1, .v (.slice (some ⟨kb, ko, none⟩) 32 kc)), (4, .p 1 0), (5, .p 2 0), (6, .p 3 0)]) (by kernel_rfl) tabOk h4 M4 rfl (by kernel_rfl) (by kernel_rfl) (fun W' => Mw (bg [⟨g, T, (ex + 16), m⟩, ⟨p0, 61, 4, (fun i => .int .u64 (I0 i))⟩, ⟨p1, 61, 4, (fun i => .int .u64 (I1 i))⟩, ⟨p2, 61, 4, (fun _ => .int .u64 0)⟩]) [⟨g, T, (ex + 16), (cpB m 8 4 (fun j => .int .u64 (I0 (0 + j))))⟩, ⟨p0, 61, 4, (fun i => .int .u64 (I0 i))⟩, ⟨p1, 61, 4, (fun i => .int .u64 (I1 i))⟩, ⟨p2, 61, 4, (upm (upm (upm (upm (fun _ => .int .u64 0) 0 (.int .u64 (keyN x 0))) 1 (.int .u64 (keyN x 1))) 2 (.int .u64 (keyN x 2))) 3 (.int .u64 (keyN x 3)))⟩] W' ∧ Fr [g] W4 W')
    (fun ty => by
      obtain ⟨W', h1, h2, h3⟩ := C5 ty
      exact ⟨W', h1, (M4.drew.rep 0 rfl h3 h2 : Mw _ (bset _ 0 _) W'), h3⟩)
    ⟨by kernel_rfl, by kernel_rfl, by kernel_rfl, by kernel_rfl, by kernel_rfl, trivial⟩ rfl (fun _ _ _ _ hd h => And.intro (hd.trans (And.left h)) (And.right h)) (fun a5 W5 h5 d5 hR => ?_)
  show Code.wp _ _ _ _ _
  obtain ⟨M5, G5⟩ := hR
  replace h5 := sub_ok (E := [(0, .p 0 0), (1, .v (.slice (some ⟨kb, ko, none⟩) 32 kc)), (4, .p 1 0), (5, .p 2 0), (6, .p 3 0)]) h5 ⟨by kernel_rfl, by kernel_rfl, by kernel_rfl, by kernel_rfl, by kernel_rfl, trivial⟩
  clear C5
  replace d5 := d5.trans d4
  replace M5 : Mw (bg [⟨g, T, (ex + 16), m⟩, ⟨p0, 61, 4, (fun i => .int .u64 (I0 i))⟩, ⟨p1, 61, 4, (fun i => .int .u64 (I1 i))⟩, ⟨p2, 61, 4, (fun _ => .int .u64 0)⟩]) [⟨g, T, (ex + 16), (cpB m 8 4 (fun j => .int .u64 (I0 (0 + j))))⟩, ⟨p0, 61, 4, (fun i => .int .u64 (I0 i))⟩, ⟨p1, 61, 4, (fun i => .int .u64 (I1 i))⟩, ⟨p2, 61, 4, (upm (upm (upm (upm (fun _ => .int .u64 0) 0 (.int .u64 (keyN x 0))) 1 (.int .u64 (keyN x 1))) 2 (.int .u64 (keyN x 2))) 3 (.int .u64 (keyN x 3)))⟩] W5 := M5
  have F5 := Fr.comp F4 G5 (fun x hx => Or.inl hx)
  clear F4 G5
  clear h4 d4 M4
  refine wp_seq ?_
  have C6 := fun ty => copy_in (P := Tryd.prog) (W := W5.drew) (M5.2.get (k := 0) rfl) 12 4 4 p1 0 4 4 4 (fun j => .int .u64 (I1 (0 + j))) rfl (by show 16 ≤ ex + 16; omega) (fun j hj => (M5.2.get (k := 2) rfl).cell (0 + j) (by show 0 + j < 4; omega)) (fun j hj => rfl) 91 91 ty 31 Tryd.underlying91 (by kernel_rfl)
  refine regM_copy (N := 107) (T := TT) (n := 4) (d := 42) (t1 := 91) (t2 := 91) (sx := .s 0 12 4 4) (sy := .s 2 0 4 4) (v := goInt 4) (E2 := [(0, .p 0 0), (1, .v (.slice (some ⟨kb, ko, none⟩) 32 kc)), (4, .p 1 0), (5, .p 2 0), (6, .p 3 0)]) (by kernel_rfl) tabOk h5 M5 rfl (by kernel_rfl) (by kernel_rfl) (fun W' => Mw (bg [⟨g, T, (ex + 16), m⟩, ⟨p0, 61, 4, (fun i => .int .u64 (I0 i))⟩, ⟨p1, 61, 4, (fun i => .int .u64 (I1 i))⟩, ⟨p2, 61, 4, (fun _ => .int .u64 0)⟩]) [⟨g, T, (ex + 16), (cpB (cpB m 8 4 (fun j => .int .u64 (I0 (0 + j)))) 12 4 (fun j => .int .u64 (I1 (0 + j))))⟩, ⟨p0, 61, 4, (fun i => .int .u64 (I0 i))⟩, ⟨p1, 61, 4, (fun i => .int .u64 (I1 i))⟩, ⟨p2, 61, 4, (upm (upm (upm (upm (fun _ => .int .u64 0) 0 (.int .u64 (keyN x 0))) 1 (.int .u64 (keyN x 1))) 2 (.int .u64 (keyN x 2))) 3 (.int .u64 (keyN x 3)))⟩] W' ∧ Fr [g] W5 W')
    (fun ty => by
      obtain ⟨W', h1, h2, h3⟩ := C6 ty
      exact ⟨W', h1, (M5.drew.rep 0 rfl h3 h2 : Mw _ (bset _ 0 _) W'), h3⟩)
    ⟨by kernel_rfl, by kernel_rfl, by kernel_rfl, by kernel_rfl, by kernel_rfl, trivial⟩ rfl (fun _ _ _ _ hd h => And.intro (hd.trans (And.left h)) (And.right h)) (fun a6 W6 h6 d6 hR => ?_)
  show Code.wp _ _ _ _ _
  obtain ⟨M6, G6⟩ := hR
  replace h6 := sub_ok (E := [(0, .p 0 0), (1, .v (.slice (some ⟨kb, ko, none⟩) 32 kc)), (4, .p 1 0), (5, .p 2 0), (6, .p 3 0)]) h6 ⟨by kernel_rfl, by kernel_rfl, by kernel_rfl, by kernel_rfl, by kernel_rfl, trivial⟩
  clear C6
  replace d6 := d6.trans d5
  replace M6 : Mw (bg [⟨g, T, (ex + 16), m⟩, ⟨p0, 61, 4, (fun i => .int .u64 (I0 i))⟩, ⟨p1, 61, 4, (fun i => .int .u64 (I1 i))⟩, ⟨p2, 61, 4, (fun _ => .int .u64 0)⟩]) [⟨g, T, (ex + 16), (cpB (cpB m 8 4 (fun j => .int .u64 (I0 (0 + j)))) 12 4 (fun j => .int .u64 (I1 (0 + j))))⟩, ⟨p0, 61, 4, (fun i => .int .u64 (I0 i))⟩, ⟨p1, 61, 4, (fun i => .int .u64 (I1 i))⟩, ⟨p2, 61, 4, (upm (upm (upm (upm (fun _ => .int .u64 0) 0 (.int .u64 (keyN x 0))) 1 (.int .u64 (keyN x 1))) 2 (.int .u64 (keyN x 2))) 3 (.int .u64 (keyN x 3)))⟩] W6 := M6
  have F6 := Fr.comp F5 G6 (fun x hx => Or.inl hx)
  clear F5 G6
  clear h5 d5 M5
  refine wp_seq ?_
  refine wp_seq ?_
  refine regM_seq (N := 107) (T := TT) (n := 2) (E2 := [(0, .p 0 0), (1, .v (.slice (some ⟨kb, ko, none⟩) 32 kc)), (4, .p 1 0), (5, .p 2 0), (6, .p 3 0), (43, .v (.agg #[.int .u64 (keyN x 0), .int .u64 (keyN x 1), .int .u64 (keyN x 2), .int .u64 (keyN x 3)])), (44, .v (.int .i64 0))]) tabOk h6 M6 rfl (by kernel_rfl) ⟨by kernel_rfl, by kernel_rfl, by kernel_rfl, by kernel_rfl, by kernel_rfl, by kernel_rfl, by kernel_rfl, trivial⟩ (fun a7 h7 d7 => ?_)
  show Code.wp _ _ _ _ _
  replace d7 := d7.trans d6
  clear h6 d6
  refine wp_block ?_
  refine wp_loop_rounds 5 ?_
  rw [rounds_succ]
  refine wp_seq ?_
  refine regM_seq (N := 107) (T := TT) (n := 1) (E2 := [(0, .p 0 0), (1, .v (.slice (some ⟨kb, ko, none⟩) 32 kc)), (4, .p 1 0), (5, .p 2 0), (6, .p 3 0), (43, .v (.agg #[.int .u64 (keyN x 0), .int .u64 (keyN x 1), .int .u64 (keyN x 2), .int .u64 (keyN x 3)])), (44, .v (.int .i64 0)), (45, .v (.bool true))]) tabOk h7 M6 rfl (by kernel_rfl) ⟨by kernel_rfl, by kernel_rfl, by kernel_rfl, by kernel_rfl, by kernel_rfl, by kernel_rfl, by kernel_rfl, by kernel_rfl, trivial⟩ (fun a8 h8 d8 => ?_)
  show Code.wp _ _ _ _ _
  replace d8 := d8.trans d7
  clear h7 d7
  refine wp_seq ?_
  refine wp_cond_true (h8.2 45 _ rfl) ?_
  refine wp_skip ?_
  show Code.wp _ _ _ _ _
  refine wp_seq ?_
  refine wp_block ?_
  refine wp_seq ?_
  refine regM_seq (N := 107) (T := TT) (n := 4) (E2 := [(0, .p 0 0), (1, .v (.slice (some ⟨kb, ko, none⟩) 32 kc)), (4, .p 1 0), (5, .p 2 0), (6, .p 3 0), (7, .v (.int .i64 0)), (8, .v (.int .u64 (keyN x 0))), (43, .v (.agg #[.int .u64 (keyN x 0), .int .u64 (keyN x 1), .int .u64 (keyN x 2), .int .u64 (keyN x 3)])), (44, .v (.int .i64 0))]) tabOk h8 M6 rfl (by kernel_rfl) ⟨by kernel_rfl, by kernel_rfl, by kernel_rfl, by kernel_rfl, by kernel_rfl, by kernel_rfl, by kernel_rfl, by kernel_rfl, by kernel_rfl, trivial⟩ (fun a9 h9 d9 => ?_)
  show Code.wp _ _ _ _ _
  replace d9 := d9.trans d8
  clear h8 d8
  refine regM_store (N := 107) (T := TT) (n := 10) (k := 0) (i := 0) (u := .int .u64 (Go.bits .xor .u64 (I0 0) (keyN x 0))) (E2 := [(0, .p 0 0), (1, .v (.slice (some ⟨kb, ko, none⟩) 32 kc)), (4, .p 1 0), (5, .p 2 0), (6, .p 3 0), (43, .v (.agg #[.int .u64 (keyN x 0), .int .u64 (keyN x 1), .int .u64 (keyN x 2), .int .u64 (keyN x 3)])), (44, .v (.int .i64 0))]) (by kernel_rfl) tabOk h9 M6 rfl (by kernel_rfl) (by kernel_rfl) rfl ⟨by kernel_rfl, by kernel_rfl, by kernel_rfl, by kernel_rfl, by kernel_rfl, by kernel_rfl, by kernel_rfl, trivial⟩ (fun _ _ _ _ hd h => And.intro (hd.trans (And.left h)) (And.right h)) (fun a10 W10 h10 d10 M10 G10 => ?_)
  show Code.wp _ _ _ _ _
  replace d10 := d10.trans d9
  replace M10 : Mw (bg [⟨g, T, (ex + 16), m⟩, ⟨p0, 61, 4, (fun i => .int .u64 (I0 i))⟩, ⟨p1, 61, 4, (fun i => .int .u64 (I1 i))⟩, ⟨p2, 61, 4, (fun _ => .int .u64 0)⟩]) [⟨g, T, (ex + 16), (upm (cpB (cpB m 8 4 (fun j => .int .u64 (I0 (0 + j)))) 12 4 (fun j => .int .u64 (I1 (0 + j)))) 0 (.int .u64 (Go.bits .xor .u64 (I0 0) (keyN x 0))))⟩, ⟨p0, 61, 4, (fun i => .int .u64 (I0 i))⟩, ⟨p1, 61, 4, (fun i => .int .u64 (I1 i))⟩, ⟨p2, 61, 4, (upm (upm (upm (upm (fun _ => .int .u64 0) 0 (.int .u64 (keyN x 0))) 1 (.int .u64 (keyN x 1))) 2 (.int .u64 (keyN x 2))) 3 (.int .u64 (keyN x 3)))⟩] W10 := M10
  have F10 := Fr.comp F6 G10 (fun x hx => Or.inl hx)
  clear F6 G10
  clear h9 d9 M6
  refine regM_seq (N := 107) (T := TT) (n := 2) (E2 := [(0, .p 0 0), (1, .v (.slice (some ⟨kb, ko, none⟩) 32 kc)), (4, .p 1 0), (5, .p 2 0), (6, .p 3 0), (43, .v (.agg #[.int .u64 (keyN x 0), .int .u64 (keyN x 1), .int .u64 (keyN x 2), .int .u64 (keyN x 3)])), (44, .v (.int .i64 1))]) tabOk h10 M10 rfl (by kernel_rfl) ⟨by kernel_rfl, by kernel_rfl, by kernel_rfl, by kernel_rfl, by kernel_rfl, by kernel_rfl, by kernel_rfl, trivial⟩ (fun a11 h11 d11 => ?_)
  replace d11 := d11.trans d10
  clear h10 d10
  show Code.rounds _ _ _ _ _ _
  rw [rounds_succ]
  refine wp_seq ?_
  refine regM_seq (N := 107) (T := TT) (n := 1) (E2 := [(0, .p 0 0), (1, .v (.slice (some ⟨kb, ko, none⟩) 32 kc)), (4, .p 1 0), (5, .p 2 0), (6, .p 3 0), (43, .v (.agg #[.int .u64 (keyN x 0), .int .u64 (keyN x 1), .int .u64 (keyN x 2), .int .u64 (keyN x 3)])), (44, .v (.int .i64 1)), (45, .v (.bool true))]) tabOk h11 M10 rfl (by kernel_rfl) ⟨by kernel_rfl, by kernel_rfl, by kernel_rfl, by kernel_rfl, by kernel_rfl, by kernel_rfl, by kernel_rfl, by kernel_rfl, trivial⟩ (fun a12 h12 d12 => ?_)
  show Code.wp _ _ _ _ _
  replace d12 := d12.trans d11
  clear h11 d11
  refine wp_seq ?_
  refine wp_cond_true (h12.2 45 _ rfl) ?_
  refine wp_skip ?_
  show Code.wp _ _ _ _ _
  refine wp_seq ?_
  refine wp_block ?_
  refine wp_seq ?_
  refine regM_seq (N := 107) (T := TT) (n := 4) (E2 := [(0, .p 0 0), (1, .v (.slice (some ⟨kb, ko, none⟩) 32 kc)), (4, .p 1 0), (5, .p 2 0), (6, .p 3 0), (7, .v (.int .i64 1)), (8, .v (.int .u64 (keyN x 1))), (43, .v (.agg #[.int .u64 (keyN x 0), .int .u64 (keyN x 1), .int .u64 (keyN x 2), .int .u64 (keyN x 3)])), (44, .v (.int .i64 1))]) tabOk h12 M10 rfl (by kernel_rfl) ⟨by kernel_rfl, by kernel_rfl, by kernel_rfl, by kernel_rfl, by kernel_rfl, by kernel_rfl, by kernel_rfl, by kernel_rfl, by kernel_rfl, trivial⟩ (fun a13 h13 d13 => ?_)
  show Code.wp _ _ _ _ _
  replace d13 := d13.trans d12
  clear h12 d12
  refine regM_store (N := 107) (T := TT) (n := 10) (k := 0) (i := 1) (u := .int .u64 (Go.bits .xor .u64 (I0 1) (keyN x 1))) (E2 := [(0, .p 0 0), (1, .v (.slice (some ⟨kb, ko, none⟩) 32 kc)), (4, .p 1 0), (5, .p 2 0), (6, .p 3 0), (43, .v (.agg #[.int .u64 (keyN x 0), .int .u64 (keyN x 1), .int .u64 (keyN x 2), .int .u64 (keyN x 3)])), (44, .v (.int .i64 1))]) (by kernel_rfl) tabOk h13 M10 rfl (by kernel_rfl) (by kernel_rfl) rfl ⟨by kernel_rfl, by kernel_rfl, by kernel_rfl, by kernel_rfl, by kernel_rfl, by kernel_rfl, by kernel_rfl, trivial⟩ (fun _ _ _ _ hd h => And.intro (hd.trans (And.left h)) (And.right h)) (fun a14 W14 h14 d14 M14 G14 => ?_)
  show Code.wp _ _ _ _ _
  replace d14 := d14.trans d13
  replace M14 : Mw (bg [⟨g, T, (ex + 16), m⟩, ⟨p0, 61, 4, (fun i => .int .u64 (I0 i))⟩, ⟨p1, 61, 4, (fun i => .int .u64 (I1 i))⟩, ⟨p2, 61, 4, (fun _ => .int .u64 0)⟩]) [⟨g, T, (ex + 16), (upm (upm (cpB (cpB m 8 4 (fun j => .int .u64 (I0 (0 + j)))) 12 4 (fun j => .int .u64 (I1 (0 + j)))) 0 (.int .u64 (Go.bits .xor .u64 (I0 0) (keyN x 0)))) 1 (.int .u64 (Go.bits .xor .u64 (I0 1) (keyN x 1))))⟩, ⟨p0, 61, 4, (fun i => .int .u64 (I0 i))⟩, ⟨p1, 61, 4, (fun i => .int .u64 (I1 i))⟩, ⟨p2, 61, 4, (upm (upm (upm (upm (fun _ => .int .u64 0) 0 (.int .u64 (keyN x 0))) 1 (.int .u64 (keyN x 1))) 2 (.int .u64 (keyN x 2))) 3 (.int .u64 (keyN x 3)))⟩] W14 := M14
  have F14 := Fr.comp F10 G14 (fun x hx => Or.inl hx)
  clear F10 G14
  clear h13 d13 M10
  refine regM_seq (N := 107) (T := TT) (n := 2) (E2 := [(0, .p 0 0), (1, .v (.slice (some ⟨kb, ko, none⟩) 32 kc)), (4, .p 1 0), (5, .p 2 0), (6, .p 3 0), (43, .v (.agg #[.int .u64 (keyN x 0), .int .u64 (keyN x 1), .int .u64 (keyN x 2), .int .u64 (keyN x 3)])), (44, .v (.int .i64 2))]) tabOk h14 M14 rfl (by kernel_rfl) ⟨by kernel_rfl, by kernel_rfl, by kernel_rfl, by kernel_rfl, by kernel_rfl, by kernel_rfl, by kernel_rfl, trivial⟩ (fun a15 h15 d15 => ?_)
  replace d15 := d15.trans d14
  clear h14 d14
  show Code.rounds _ _ _ _ _ _
  rw [rounds_succ]
  refine wp_seq ?_
  refine regM_seq (N := 107) (T := TT) (n := 1) (E2 := [(0, .p 0 0), (1, .v (.slice (some ⟨kb, ko, none⟩) 32 kc)), (4, .p 1 0), (5, .p 2 0), (6, .p 3 0), (43, .v (.agg #[.int .u64 (keyN x 0), .int .u64 (keyN x 1), .int .u64 (keyN x 2), .int .u64 (keyN x 3)])), (44, .v (.int .i64 2)), (45, .v (.bool true))]) tabOk h15 M14 rfl (by kernel_rfl) ⟨by kernel_rfl, by kernel_rfl, by kernel_rfl, by kernel_rfl, by kernel_rfl, by kernel_rfl, by kernel_rfl, by kernel_rfl, trivial⟩ (fun a16 h16 d16 => ?_)
  show Code.wp _ _ _ _ _
  replace d16 := d16.trans d15
  clear h15 d15
  refine wp_seq ?_
  refine wp_cond_true (h16.2 45 _ rfl) ?_
  refine wp_skip ?_
  show Code.wp _ _ _ _ _
  refine wp_seq ?_
  refine wp_block ?_
  refine wp_seq ?_
  refine regM_seq (N := 107) (T := TT) (n := 4) (E2 := [(0, .p 0 0), (1, .v (.slice (some ⟨kb, ko, none⟩) 32 kc)), (4, .p 1 0), (5, .p 2 0), (6, .p 3 0), (7, .v (.int .i64 2)), (8, .v (.int .u64 (keyN x 2))), (43, .v (.agg #[.int .u64 (keyN x 0), .int .u64 (keyN x 1), .int .u64 (keyN x 2), .int .u64 (keyN x 3)])), (44, .v (.int .i64 2))]) tabOk h16 M14 rfl (by kernel_rfl) ⟨by kernel_rfl, by kernel_rfl, by kernel_rfl, by kernel_rfl, by kernel_rfl, by kernel_rfl, by kernel_rfl, by kernel_rfl, by kernel_rfl, trivial⟩ (fun a17 h17 d17 => ?_)
  show Code.wp _ _ _ _ _
  replace d17 := d17.trans d16
  clear h16 d16
  refine regM_store (N := 107) (T := TT) (n := 10) (k := 0) (i := 2) (u := .int .u64 (Go.bits .xor .u64 (I0 2) (keyN x 2))) (E2 := [(0, .p 0 0), (1, .v (.slice (some ⟨kb, ko, none⟩) 32 kc)), (4, .p 1 0), (5, .p 2 0), (6, .p 3 0), (43, .v (.agg #[.int .u64 (keyN x 0), .int .u64 (keyN x 1), .int .u64 (keyN x 2), .int .u64 (keyN x 3)])), (44, .v (.int .i64 2))]) (by kernel_rfl) tabOk h17 M14 rfl (by kernel_rfl) (by kernel_rfl) rfl ⟨by kernel_rfl, by kernel_rfl, by kernel_rfl, by kernel_rfl, by kernel_rfl, by kernel_rfl, by kernel_rfl, trivial⟩ (fun _ _ _ _ hd h => And.intro (hd.trans (And.left h)) (And.right h)) (fun a18 W18 h18 d18 M18 G18 => ?_)
  show Code.wp _ _ _ _ _
  replace d18 := d18.trans d17
  replace M18 : Mw (bg [⟨g, T, (ex + 16), m⟩, ⟨p0, 61, 4, (fun i => .int .u64 (I0 i))⟩, ⟨p1, 61, 4, (fun i => .int .u64 (I1 i))⟩, ⟨p2, 61, 4, (fun _ => .int .u64 0)⟩]) [⟨g, T, (ex + 16), (upm (upm (upm (cpB (cpB m 8 4 (fun j => .int .u64 (I0 (0 + j)))) 12 4 (fun j => .int .u64 (I1 (0 + j)))) 0 (.int .u64 (Go.bits .xor .u64 (I0 0) (keyN x 0)))) 1 (.int .u64 (Go.bits .xor .u64 (I0 1) (keyN x 1)))) 2 (.int .u64 (Go.bits .xor .u64 (I0 2) (keyN x 2))))⟩, ⟨p0, 61, 4, (fun i => .int .u64 (I0 i))⟩, ⟨p1, 61, 4, (fun i => .int .u64 (I1 i))⟩, ⟨p2, 61, 4, (upm (upm (upm (upm (fun _ => .int .u64 0) 0 (.int .u64 (keyN x 0))) 1 (.int .u64 (keyN x 1))) 2 (.int .u64 (keyN x 2))) 3 (.int .u64 (keyN x 3)))⟩] W18 := M18
  have F18 := Fr.comp F14 G18 (fun x hx => Or.inl hx)
  clear F14 G18
  clear h17 d17 M14
  refine regM_seq (N := 107) (T := TT) (n := 2) (E2 := [(0, .p 0 0), (1, .v (.slice (some ⟨kb, ko, none⟩) 32 kc)), (4, .p 1 0), (5, .p 2 0), (6, .p 3 0), (43, .v (.agg #[.int .u64 (keyN x 0), .int .u64 (keyN x 1), .int .u64 (keyN x 2), .int .u64 (keyN x 3)])), (44, .v (.int .i64 3))]) tabOk h18 M18 rfl (by kernel_rfl) ⟨by kernel_rfl, by kernel_rfl, by kernel_rfl, by kernel_rfl, by kernel_rfl, by kernel_rfl, by kernel_rfl, trivial⟩ (fun a19 h19 d19 => ?_)
  replace d19 := d19.trans d18
  clear h18 d18
  show Code.rounds _ _ _ _ _ _
  rw [rounds_succ]
  refine wp_seq ?_
  refine regM_seq (N := 107) (T := TT) (n := 1) (E2 := [(0, .p 0 0), (1, .v (.slice (some ⟨kb, ko, none⟩) 32 kc)), (4, .p 1 0), (5, .p 2 0), (6, .p 3 0), (43, .v (.agg #[.int .u64 (keyN x 0), .int .u64 (keyN x 1), .int .u64 (keyN x 2), .int .u64 (keyN x 3)])), (44, .v (.int .i64 3)), (45, .v (.bool true))]) tabOk h19 M18 rfl (by kernel_rfl) ⟨by kernel_rfl, by kernel_rfl, by kernel_rfl, by kernel_rfl, by kernel_rfl, by kernel_rfl, by kernel_rfl, by kernel_rfl, trivial⟩ (fun a20 h20 d20 => ?_)
  show Code.wp _ _ _ _ _
  replace d20 := d20.trans d19
  clear h19 d19
  refine wp_seq ?_
  refine wp_cond_true (h20.2 45 _ rfl) ?_
  refine wp_skip ?_
  show Code.wp _ _ _ _ _
  refine wp_seq ?_
  refine wp_block ?_
  refine wp_seq ?_
  refine regM_seq (N := 107) (T := TT) (n := 4) (E2 := [(0, .p 0 0), (1, .v (.slice (some ⟨kb, ko, none⟩) 32 kc)), (4, .p 1 0), (5, .p 2 0), (6, .p 3 0), (7, .v (.int .i64 3)), (8, .v (.int .u64 (keyN x 3))), (43, .v (.agg #[.int .u64 (keyN x 0), .int .u64 (keyN x 1), .int .u64 (keyN x 2), .int .u64 (keyN x 3)])), (44, .v (.int .i64 3))]) tabOk h20 M18 rfl (by kernel_rfl) ⟨by kernel_rfl, by kernel_rfl, by kernel_rfl, by kernel_rfl, by kernel_rfl, by kernel_rfl, by kernel_rfl, by kernel_rfl, by kernel_rfl, trivial⟩ (fun a21 h21 d21 => ?_)
  show Code.wp _ _ _ _ _
  replace d21 := d21.trans d20
  clear h20 d20
  refine regM_store (N := 107) (T := TT) (n := 10) (k := 0) (i := 3) (u := .int .u64 (Go.bits .xor .u64 (I0 3) (keyN x 3))) (E2 := [(0, .p 0 0), (1, .v (.slice (some ⟨kb, ko, none⟩) 32 kc)), (4, .p 1 0), (5, .p 2 0), (6, .p 3 0), (43, .v (.agg #[.int .u64 (keyN x 0), .int .u64 (keyN x 1), .int .u64 (keyN x 2), .int .u64 (keyN x 3)])), (44, .v (.int .i64 3))]) (by kernel_rfl) tabOk h21 M18 rfl (by kernel_rfl) (by kernel_rfl) rfl ⟨by kernel_rfl, by kernel_rfl, by kernel_rfl, by kernel_rfl, by kernel_rfl, by kernel_rfl, by kernel_rfl, trivial⟩ (fun _ _ _ _ hd h => And.intro (hd.trans (And.left h)) (And.right h)) (fun a22 W22 h22 d22 M22 G22 => ?_)
  show Code.wp _ _ _ _ _
  replace d22 := d22.trans d21
  replace M22 : Mw (bg [⟨g, T, (ex + 16), m⟩, ⟨p0, 61, 4, (fun i => .int .u64 (I0 i))⟩, ⟨p1, 61, 4, (fun i => .int .u64 (I1 i))⟩, ⟨p2, 61, 4, (fun _ => .int .u64 0)⟩]) [⟨g, T, (ex + 16), (upm (upm (upm (upm (cpB (cpB m 8 4 (fun j => .int .u64 (I0 (0 + j)))) 12 4 (fun j => .int .u64 (I1 (0 + j)))) 0 (.int .u64 (Go.bits .xor .u64 (I0 0) (keyN x 0)))) 1 (.int .u64 (Go.bits .xor .u64 (I0 1) (keyN x 1)))) 2 (.int .u64 (Go.bits .xor .u64 (I0 2) (keyN x 2)))) 3 (.int .u64 (Go.bits .xor .u64 (I0 3) (keyN x 3))))⟩, ⟨p0, 61, 4, (fun i => .int .u64 (I0 i))⟩, ⟨p1, 61, 4, (fun i => .int .u64 (I1 i))⟩, ⟨p2, 61, 4, (upm (upm (upm (upm (fun _ => .int .u64 0) 0 (.int .u64 (keyN x 0))) 1 (.int .u64 (keyN x 1))) 2 (.int .u64 (keyN x 2))) 3 (.int .u64 (keyN x 3)))⟩] W22 := M22
  have F22 := Fr.comp F18 G22 (fun x hx => Or.inl hx)
  clear F18 G22
  clear h21 d21 M18
  refine regM_seq (N := 107) (T := TT) (n := 2) (E2 := [(0, .p 0 0), (1, .v (.slice (some ⟨kb, ko, none⟩) 32 kc)), (4, .p 1 0), (5, .p 2 0), (6, .p 3 0), (43, .v (.agg #[.int .u64 (keyN x 0), .int .u64 (keyN x 1), .int .u64 (keyN x 2), .int .u64 (keyN x 3)])), (44, .v (.int .i64 4))]) tabOk h22 M22 rfl (by kernel_rfl) ⟨by kernel_rfl, by kernel_rfl, by kernel_rfl, by kernel_rfl, by kernel_rfl, by kernel_rfl, by kernel_rfl, trivial⟩ (fun a23 h23 d23 => ?_)
  replace d23 := d23.trans d22
  clear h22 d22
  show Code.rounds _ _ _ _ _ _
  rw [rounds_succ]
  refine wp_seq ?_
  refine regM_seq (N := 107) (T := TT) (n := 1) (E2 := [(0, .p 0 0), (1, .v (.slice (some ⟨kb, ko, none⟩) 32 kc)), (4, .p 1 0), (5, .p 2 0), (6, .p 3 0), (43, .v (.agg #[.int .u64 (keyN x 0), .int .u64 (keyN x 1), .int .u64 (keyN x 2), .int .u64 (keyN x 3)])), (44, .v (.int .i64 4)), (45, .v (.bool false))]) tabOk h23 M22 rfl (by kernel_rfl) ⟨by kernel_rfl, by kernel_rfl, by kernel_rfl, by kernel_rfl, by kernel_rfl, by kernel_rfl, by kernel_rfl, by kernel_rfl, trivial⟩ (fun a24 h24 d24 => ?_)
  show Code.wp _ _ _ _ _
  replace d24 := d24.trans d23
  clear h23 d23
  refine wp_seq ?_
  refine wp_cond_false (h24.2 45 _ rfl) ?_
  refine wp_exit ?_
  refine then_exit (then_exit (exit_in ?_))
  show Code.wp _ _ _ _ _
  refine wp_seq ?_
  refine regM_seq_store (N := 107) (T := TT) (n := 8) (k := 3) (i := 0) (u := .int .u64 (rot32 (keyN x 0))) (E2 := [(0, .p 0 0), (1, .v (.slice (some ⟨kb, ko, none⟩) 32 kc)), (4, .p 1 0), (5, .p 2 0), (6, .p 3 0)]) tabOk h24 M22 rfl (by kernel_rfl) rfl ⟨by kernel_rfl, by kernel_rfl, by kernel_rfl, by kernel_rfl, by kernel_rfl, trivial⟩ (fun a25 W25 h25 d25 M25 G25 => ?_)
  show Code.wp _ _ _ _ _
  replace d25 := d25.trans d24
  replace M25 : Mw (bg [⟨g, T, (ex + 16), m⟩, ⟨p0, 61, 4, (fun i => .int .u64 (I0 i))⟩, ⟨p1, 61, 4, (fun i => .int .u64 (I1 i))⟩, ⟨p2, 61, 4, (fun _ => .int .u64 0)⟩]) [⟨g, T, (ex + 16), (upm (upm (upm (upm (cpB (cpB m 8 4 (fun j => .int .u64 (I0 (0 + j)))) 12 4 (fun j => .int .u64 (I1 (0 + j)))) 0 (.int .u64 (Go.bits .xor .u64 (I0 0) (keyN x 0)))) 1 (.int .u64 (Go.bits .xor .u64 (I0 1) (keyN x 1)))) 2 (.int .u64 (Go.bits .xor .u64 (I0 2) (keyN x 2)))) 3 (.int .u64 (Go.bits .xor .u64 (I0 3) (keyN x 3))))⟩, ⟨p0, 61, 4, (fun i => .int .u64 (I0 i))⟩, ⟨p1, 61, 4, (fun i => .int .u64 (I1 i))⟩, ⟨p2, 61, 4, (upm (upm (upm (upm (upm (fun _ => .int .u64 0) 0 (.int .u64 (keyN x 0))) 1 (.int .u64 (keyN x 1))) 2 (.int .u64 (keyN x 2))) 3 (.int .u64 (keyN x 3))) 0 (.int .u64 (rot32 (keyN x 0))))⟩] W25 := M25
  have F25 := Fr.comp F22 G25 (fun x hx => Or.inr (by simp at hx; subst hx; exact hp2))
  clear F22 G25
  clear h24 d24 M22
  refine wp_seq ?_
  refine regM_seq_store (N := 107) (T := TT) (n := 8) (k := 3) (i := 1) (u := .int .u64 (rot32 (keyN x 1))) (E2 := [(0, .p 0 0), (1, .v (.slice (some ⟨kb, ko, none⟩) 32 kc)), (4, .p 1 0), (5, .p 2 0), (6, .p 3 0)]) tabOk h25 M25 rfl (by kernel_rfl) rfl ⟨by kernel_rfl, by kernel_rfl, by kernel_rfl, by kernel_rfl, by kernel_rfl, trivial⟩ (fun a26 W26 h26 d26 M26 G26 => ?_)
  show Code.wp _ _ _ _ _
  replace d26 := d26.trans d25
  replace M26 : Mw (bg [⟨g, T, (ex + 16), m⟩, ⟨p0, 61, 4, (fun i => .int .u64 (I0 i))⟩, ⟨p1, 61, 4, (fun i => .int .u64 (I1 i))⟩, ⟨p2, 61, 4, (fun _ => .int .u64 0)⟩]) [⟨g, T, (ex + 16), (upm (upm (upm (upm (cpB (cpB m 8 4 (fun j => .int .u64 (I0 (0 + j)))) 12 4 (fun j => .int .u64 (I1 (0 + j)))) 0 (.int .u64 (Go.bits .xor .u64 (I0 0) (keyN x 0)))) 1 (.int .u64 (Go.bits .xor .u64 (I0 1) (keyN x 1)))) 2 (.int .u64 (Go.bits .xor .u64 (I0 2) (keyN x 2)))) 3 (.int .u64 (Go.bits .xor .u64 (I0 3) (keyN x 3))))⟩, ⟨p0, 61, 4, (fun i => .int .u64 (I0 i))⟩, ⟨p1, 61, 4, (fun i => .int .u64 (I1 i))⟩, ⟨p2, 61, 4, (upm (upm (upm (upm (upm (upm (fun _ => .int .u64 0) 0 (.int .u64 (keyN x 0))) 1 (.int .u64 (keyN x 1))) 2 (.int .u64 (keyN x 2))) 3 (.int .u64 (keyN x 3))) 0 (.int .u64 (rot32 (keyN x 0)))) 1 (.int .u64 (rot32 (keyN x 1))))⟩] W26 := M26
  have F26 := Fr.comp F25 G26 (fun x hx => Or.inr (by simp at hx; subst hx; exact hp2))
  clear F25 G26
  clear h25 d25 M25
  refine wp_seq ?_
  refine regM_seq_store (N := 107) (T := TT) (n := 8) (k := 3) (i := 2) (u := .int .u64 (rot32 (keyN x 2))) (E2 := [(0, .p 0 0), (1, .v (.slice (some ⟨kb, ko, none⟩) 32 kc)), (4, .p 1 0), (5, .p 2 0), (6, .p 3 0)]) tabOk h26 M26 rfl (by kernel_rfl) rfl ⟨by kernel_rfl, by kernel_rfl, by kernel_rfl, by kernel_rfl, by kernel_rfl, trivial⟩ (fun a27 W27 h27 d27 M27 G27 => ?_)
  show Code.wp _ _ _ _ _
  replace d27 := d27.trans d26
  replace M27 : Mw (bg [⟨g, T, (ex + 16), m⟩, ⟨p0, 61, 4, (fun i => .int .u64 (I0 i))⟩, ⟨p1, 61, 4, (fun i => .int .u64 (I1 i))⟩, ⟨p2, 61, 4, (fun _ => .int .u64 0)⟩]) [⟨g, T, (ex + 16), (upm (upm (upm (upm (cpB (cpB m 8 4 (fun j => .int .u64 (I0 (0 + j)))) 12 4 (fun j => .int .u64 (I1 (0 + j)))) 0 (.int .u64 (Go.bits .xor .u64 (I0 0) (keyN x 0)))) 1 (.int .u64 (Go.bits .xor .u64 (I0 1) (keyN x 1)))) 2 (.int .u64 (Go.bits .xor .u64 (I0 2) (keyN x 2)))) 3 (.int .u64 (Go.bits .xor .u64 (I0 3) (keyN x 3))))⟩, ⟨p0, 61, 4, (fun i => .int .u64 (I0 i))⟩, ⟨p1, 61, 4, (fun i => .int .u64 (I1 i))⟩, ⟨p2, 61, 4, (upm (upm (upm (upm (upm (upm (upm (fun _ => .int .u64 0) 0 (.int .u64 (keyN x 0))) 1 (.int .u64 (keyN x 1))) 2 (.int .u64 (keyN x 2))) 3 (.int .u64 (keyN x 3))) 0 (.int .u64 (rot32 (keyN x 0)))) 1 (.int .u64 (rot32 (keyN x 1)))) 2 (.int .u64 (rot32 (keyN x 2))))⟩] W27 := M27
  have F27 := Fr.comp F26 G27 (fun x hx => Or.inr (by simp at hx; subst hx; exact hp2))
  clear F26 G27
  clear h26 d26 M26
  refine wp_seq ?_
  refine regM_seq_store (N := 107) (T := TT) (n := 8) (k := 3) (i := 3) (u := .int .u64 (rot32 (keyN x 3))) (E2 := [(0, .p 0 0), (1, .v (.slice (some ⟨kb, ko, none⟩) 32 kc)), (4, .p 1 0), (5, .p 2 0), (6, .p 3 0)]) tabOk h27 M27 rfl (by kernel_rfl) rfl ⟨by kernel_rfl, by kernel_rfl, by kernel_rfl, by kernel_rfl, by kernel_rfl, trivial⟩ (fun a28 W28 h28 d28 M28 G28 => ?_)
  show Code.wp _ _ _ _ _
  replace d28 := d28.trans d27
  replace M28 : Mw (bg [⟨g, T, (ex + 16), m⟩, ⟨p0, 61, 4, (fun i => .int .u64 (I0 i))⟩, ⟨p1, 61, 4, (fun i => .int .u64 (I1 i))⟩, ⟨p2, 61, 4, (fun _ => .int .u64 0)⟩]) [⟨g, T, (ex + 16), (upm (upm (upm (upm (cpB (cpB m 8 4 (fun j => .int .u64 (I0 (0 + j)))) 12 4 (fun j => .int .u64 (I1 (0 + j)))) 0 (.int .u64 (Go.bits .xor .u64 (I0 0) (keyN x 0)))) 1 (.int .u64 (Go.bits .xor .u64 (I0 1) (keyN x 1)))) 2 (.int .u64 (Go.bits .xor .u64 (I0 2) (keyN x 2)))) 3 (.int .u64 (Go.bits .xor .u64 (I0 3) (keyN x 3))))⟩, ⟨p0, 61, 4, (fun i => .int .u64 (I0 i))⟩, ⟨p1, 61, 4, (fun i => .int .u64 (I1 i))⟩, ⟨p2, 61, 4, (upm (upm (upm (upm (upm (upm (upm (upm (fun _ => .int .u64 0) 0 (.int .u64 (keyN x 0))) 1 (.int .u64 (keyN x 1))) 2 (.int .u64 (keyN x 2))) 3 (.int .u64 (keyN x 3))) 0 (.int .u64 (rot32 (keyN x 0)))) 1 (.int .u64 (rot32 (keyN x 1)))) 2 (.int .u64 (rot32 (keyN x 2)))) 3 (.int .u64 (rot32 (keyN x 3))))⟩] W28 := M28
  have F28 := Fr.comp F27 G28 (fun x hx => Or.inr (by simp at hx; subst hx; exact hp2))
  clear F27 G28
  clear h27 d27 M27
  refine wp_seq ?_
  refine regM_seq (N := 107) (T := TT) (n := 2) (E2 := [(0, .p 0 0), (1, .v (.slice (some ⟨kb, ko, none⟩) 32 kc)), (4, .p 1 0), (5, .p 2 0), (6, .p 3 0), (91, .v (.agg #[.int .u64 (rot32 (keyN x 0)), .int .u64 (rot32 (keyN x 1)), .int .u64 (rot32 (keyN x 2)), .int .u64 (rot32 (keyN x 3))])), (92, .v (.int .i64 0))]) tabOk h28 M28 rfl (by kernel_rfl) ⟨by kernel_rfl, by kernel_rfl, by kernel_rfl, by kernel_rfl, by kernel_rfl, by kernel_rfl, by kernel_rfl, trivial⟩ (fun a29 h29 d29 => ?_)
  show Code.wp _ _ _ _ _
  replace d29 := d29.trans d28
  clear h28 d28
  refine wp_block ?_
  refine wp_loop_rounds 5 ?_
  rw [rounds_succ]
  refine wp_seq ?_
  refine regM_seq (N := 107) (T := TT) (n := 1) (E2 := [(0, .p 0 0), (1, .v (.slice (some ⟨kb, ko, none⟩) 32 kc)), (4, .p 1 0), (5, .p 2 0), (6, .p 3 0), (91, .v (.agg #[.int .u64 (rot32 (keyN x 0)), .int .u64 (rot32 (keyN x 1)), .int .u64 (rot32 (keyN x 2)), .int .u64 (rot32 (keyN x 3))])), (92, .v (.int .i64 0)), (93, .v (.bool true))]) tabOk h29 M28 rfl (by kernel_rfl) ⟨by kernel_rfl, by kernel_rfl, by kernel_rfl, by kernel_rfl, by kernel_rfl, by kernel_rfl, by kernel_rfl, by kernel_rfl, trivial⟩ (fun a30 h30 d30 => ?_)
  show Code.wp _ _ _ _ _
  replace d30 := d30.trans d29
  clear h29 d29
  refine wp_seq ?_
  refine wp_cond_true (h30.2 93 _ rfl) ?_
  refine wp_skip ?_
  show Code.wp _ _ _ _ _
  refine wp_seq ?_
  refine wp_block ?_
  refine wp_seq ?_
  refine regM_seq (N := 107) (T := TT) (n := 4) (E2 := [(0, .p 0 0), (1, .v (.slice (some ⟨kb, ko, none⟩) 32 kc)), (4, .p 1 0), (5, .p 2 0), (6, .p 3 0), (9, .v (.int .i64 0)), (10, .v (.int .u64 (rot32 (keyN x 0)))), (91, .v (.agg #[.int .u64 (rot32 (keyN x 0)), .int .u64 (rot32 (keyN x 1)), .int .u64 (rot32 (keyN x 2)), .int .u64 (rot32 (keyN x 3))])), (92, .v (.int .i64 0))]) tabOk h30 M28 rfl (by kernel_rfl) ⟨by kernel_rfl, by kernel_rfl, by kernel_rfl, by kernel_rfl, by kernel_rfl, by kernel_rfl, by kernel_rfl, by kernel_rfl, by kernel_rfl, trivial⟩ (fun a31 h31 d31 => ?_)
  show Code.wp _ _ _ _ _
  replace d31 := d31.trans d30
  clear h30 d30
  refine regM_store (N := 107) (T := TT) (n := 10) (k := 0) (i := 4) (u := .int .u64 (Go.bits .xor .u64 (I1 0) (rot32 (keyN x 0)))) (E2 := [(0, .p 0 0), (1, .v (.slice (some ⟨kb, ko, none⟩) 32 kc)), (4, .p 1 0), (5, .p 2 0), (6, .p 3 0), (91, .v (.agg #[.int .u64 (rot32 (keyN x 0)), .int .u64 (rot32 (keyN x 1)), .int .u64 (rot32 (keyN x 2)), .int .u64 (rot32 (keyN x 3))])), (92, .v (.int .i64 0))]) (by kernel_rfl) tabOk h31 M28 rfl (by kernel_rfl) (by kernel_rfl) rfl ⟨by kernel_rfl, by kernel_rfl, by kernel_rfl, by kernel_rfl, by kernel_rfl, by kernel_rfl, by kernel_rfl, trivial⟩ (fun _ _ _ _ hd h => And.intro (hd.trans (And.left h)) (And.right h)) (fun a32 W32 h32 d32 M32 G32 => ?_)
  show Code.wp _ _ _ _ _
  replace d32 := d32.trans d31
  replace M32 : Mw (bg [⟨g, T, (ex + 16), m⟩, ⟨p0, 61, 4, (fun i => .int .u64 (I0 i))⟩, ⟨p1, 61, 4, (fun i => .int .u64 (I1 i))⟩, ⟨p2, 61, 4, (fun _ => .int .u64 0)⟩]) [⟨g, T, (ex + 16), (upm (upm (upm (upm (upm (cpB (cpB m 8 4 (fun j => .int .u64 (I0 (0 + j)))) 12 4 (fun j => .int .u64 (I1 (0 + j)))) 0 (.int .u64 (Go.bits .xor .u64 (I0 0) (keyN x 0)))) 1 (.int .u64 (Go.bits .xor .u64 (I0 1) (keyN x 1)))) 2 (.int .u64 (Go.bits .xor .u64 (I0 2) (keyN x 2)))) 3 (.int .u64 (Go.bits .xor .u64 (I0 3) (keyN x 3)))) 4 (.int .u64 (Go.bits .xor .u64 (I1 0) (rot32 (keyN x 0)))))⟩, ⟨p0, 61, 4, (fun i => .int .u64 (I0 i))⟩, ⟨p1, 61, 4, (fun i => .int .u64 (I1 i))⟩, ⟨p2, 61, 4, (upm (upm (upm (upm (upm (upm (upm (upm (fun _ => .int .u64 0) 0 (.int .u64 (keyN x 0))) 1 (.int .u64 (keyN x 1))) 2 (.int .u64 (keyN x 2))) 3 (.int .u64 (keyN x 3))) 0 (.int .u64 (rot32 (keyN x 0)))) 1 (.int .u64 (rot32 (keyN x 1)))) 2 (.int .u64 (rot32 (keyN x 2)))) 3 (.int .u64 (rot32 (keyN x 3))))⟩] W32 := M32
  have F32 := Fr.comp F28 G32 (fun x hx => Or.inl hx)
  clear F28 G32
  clear h31 d31 M28
  refine regM_seq (N := 107) (T := TT) (n := 2) (E2 := [(0, .p 0 0), (1, .v (.slice (some ⟨kb, ko, none⟩) 32 kc)), (4, .p 1 0), (5, .p 2 0), (6, .p 3 0), (91, .v (.agg #[.int .u64 (rot32 (keyN x 0)), .int .u64 (rot32 (keyN x 1)), .int .u64 (rot32 (keyN x 2)), .int .u64 (rot32 (keyN x 3))])), (92, .v (.int .i64 1))]) tabOk h32 M32 rfl (by kernel_rfl) ⟨by kernel_rfl, by kernel_rfl, by kernel_rfl, by kernel_rfl, by kernel_rfl, by kernel_rfl, by kernel_rfl, trivial⟩ (fun a33 h33 d33 => ?_)
  replace d33 := d33.trans d32
  clear h32 d32
  show Code.rounds _ _ _ _ _ _
  rw [rounds_succ]
  refine wp_seq ?_
  refine regM_seq (N := 107) (T := TT) (n := 1) (E2 := [(0, .p 0 0), (1, .v (.slice (some ⟨kb, ko, none⟩) 32 kc)), (4, .p 1 0), (5, .p 2 0), (6, .p 3 0), (91, .v (.agg #[.int .u64 (rot32 (keyN x 0)), .int .u64 (rot32 (keyN x 1)), .int .u64 (rot32 (keyN x 2)), .int .u64 (rot32 (keyN x 3))])), (92, .v (.int .i64 1)), (93, .v (.bool true))]) tabOk h33 M32 rfl (by kernel_rfl) ⟨by kernel_rfl, by kernel_rfl, by kernel_rfl, by kernel_rfl, by kernel_rfl, by kernel_rfl, by kernel_rfl, by kernel_rfl, trivial⟩ (fun a34 h34 d34 => ?_)
  show Code.wp _ _ _ _ _
  replace d34 := d34.trans d33
  clear h33 d33
  refine wp_seq ?_
  refine wp_cond_true (h34.2 93 _ rfl) ?_
  refine wp_skip ?_
  show Code.wp _ _ _ _ _
  refine wp_seq ?_
  refine wp_block ?_
  refine wp_seq ?_
  refine regM_seq (N := 107) (T := TT) (n := 4) (E2 := [(0, .p 0 0), (1, .v (.slice (some ⟨kb, ko, none⟩) 32 kc)), (4, .p 1 0), (5, .p 2 0), (6, .p 3 0), (9, .v (.int .i64 1)), (10, .v (.int .u64 (rot32 (keyN x 1)))), (91, .v (.agg #[.int .u64 (rot32 (keyN x 0)), .int .u64 (rot32 (keyN x 1)), .int .u64 (rot32 (keyN x 2)), .int .u64 (rot32 (keyN x 3))])), (92, .v (.int .i64 1))]) tabOk h34 M32 rfl (by kernel_rfl) ⟨by kernel_rfl, by kernel_rfl, by kernel_rfl, by kernel_rfl, by kernel_rfl, by kernel_rfl, by kernel_rfl, by kernel_rfl, by kernel_rfl, trivial⟩ (fun a35 h35 d35 => ?_)
  show Code.wp _ _ _ _ _
  replace d35 := d35.trans d34
  clear h34 d34
  refine regM_store (N := 107) (T := TT) (n := 10) (k := 0) (i := 5) (u := .int .u64 (Go.bits .xor .u64 (I1 1) (rot32 (keyN x 1)))) (E2 := [(0, .p 0 0), (1, .v (.slice (some ⟨kb, ko, none⟩) 32 kc)), (4, .p 1 0), (5, .p 2 0), (6, .p 3 0), (91, .v (.agg #[.int .u64 (rot32 (keyN x 0)), .int .u64 (rot32 (keyN x 1)), .int .u64 (rot32 (keyN x 2)), .int .u64 (rot32 (keyN x 3))])), (92, .v (.int .i64 1))]) (by kernel_rfl) tabOk h35 M32 rfl (by kernel_rfl) (by kernel_rfl) rfl ⟨by kernel_rfl, by kernel_rfl, by kernel_rfl, by kernel_rfl, by kernel_rfl, by kernel_rfl, by kernel_rfl, trivial⟩ (fun _ _ _ _ hd h => And.intro (hd.trans (And.left h)) (And.right h)) (fun a36 W36 h36 d36 M36 G36 => ?_)
  show Code.wp _ _ _ _ _
  replace d36 := d36.trans d35
  replace M36 : Mw (bg [⟨g, T, (ex + 16), m⟩, ⟨p0, 61, 4, (fun i => .int .u64 (I0 i))⟩, ⟨p1, 61, 4, (fun i => .int .u64 (I1 i))⟩, ⟨p2, 61, 4, (fun _ => .int .u64 0)⟩]) [⟨g, T, (ex + 16), (upm (upm (upm (upm (upm (upm (cpB (cpB m 8 4 (fun j => .int .u64 (I0 (0 + j)))) 12 4 (fun j => .int .u64 (I1 (0 + j)))) 0 (.int .u64 (Go.bits .xor .u64 (I0 0) (keyN x 0)))) 1 (.int .u64 (Go.bits .xor .u64 (I0 1) (keyN x 1)))) 2 (.int .u64 (Go.bits .xor .u64 (I0 2) (keyN x 2)))) 3 (.int .u64 (Go.bits .xor .u64 (I0 3) (keyN x 3)))) 4 (.int .u64 (Go.bits .xor .u64 (I1 0) (rot32 (keyN x 0))))) 5 (.int .u64 (Go.bits .xor .u64 (I1 1) (rot32 (keyN x 1)))))⟩, ⟨p0, 61, 4, (fun i => .int .u64 (I0 i))⟩, ⟨p1, 61, 4, (fun i => .int .u64 (I1 i))⟩, ⟨p2, 61, 4, (upm (upm (upm (upm (upm (upm (upm (upm (fun _ => .int .u64 0) 0 (.int .u64 (keyN x 0))) 1 (.int .u64 (keyN x 1))) 2 (.int .u64 (keyN x 2))) 3 (.int .u64 (keyN x 3))) 0 (.int .u64 (rot32 (keyN x 0)))) 1 (.int .u64 (rot32 (keyN x 1)))) 2 (.int .u64 (rot32 (keyN x 2)))) 3 (.int .u64 (rot32 (keyN x 3))))⟩] W36 := M36
  have F36 := Fr.comp F32 G36 (fun x hx => Or.inl hx)
  clear F32 G36
  clear h35 d35 M32
  refine regM_seq (N := 107) (T := TT) (n := 2) (E2 := [(0, .p 0 0), (1, .v (.slice (some ⟨kb, ko, none⟩) 32 kc)), (4, .p 1 0), (5, .p 2 0), (6, .p 3 0), (91, .v (.agg #[.int .u64 (rot32 (keyN x 0)), .int .u64 (rot32 (keyN x 1)), .int .u64 (rot32 (keyN x 2)), .int .u64 (rot32 (keyN x 3))])), (92, .v (.int .i64 2))]) tabOk h36 M36 rfl (by kernel_rfl) ⟨by kernel_rfl, by kernel_rfl, by kernel_rfl, by kernel_rfl, by kernel_rfl, by kernel_rfl, by kernel_rfl, trivial⟩ (fun a37 h37 d37 => ?_)
  replace d37 := d37.trans d36
  clear h36 d36
  show Code.rounds _ _ _ _ _ _
  rw [rounds_succ]
  refine wp_seq ?_
  refine regM_seq (N := 107) (T := TT) (n := 1) (E2 := [(0, .p 0 0), (1, .v (.slice (some ⟨kb, ko, none⟩) 32 kc)), (4, .p 1 0), (5, .p 2 0), (6, .p 3 0), (91, .v (.agg #[.int .u64 (rot32 (keyN x 0)), .int .u64 (rot32 (keyN x 1)), .int .u64 (rot32 (keyN x 2)), .int .u64 (rot32 (keyN x 3))])), (92, .v (.int .i64 2)), (93, .v (.bool true))]) tabOk h37 M36 rfl (by kernel_rfl) ⟨by kernel_rfl, by kernel_rfl, by kernel_rfl, by kernel_rfl, by kernel_rfl, by kernel_rfl, by kernel_rfl, by kernel_rfl, trivial⟩ (fun a38 h38 d38 => ?_)
  show Code.wp _ _ _ _ _
  replace d38 := d38.trans d37
  clear h37 d37
  refine wp_seq ?_
  refine wp_cond_true (h38.2 93 _ rfl) ?_
  refine wp_skip ?_
  show Code.wp _ _ _ _ _
  refine wp_seq ?_
  refine wp_block ?_
  refine wp_seq ?_
  refine regM_seq (N := 107) (T := TT) (n := 4) (E2 := [(0, .p 0 0), (1, .v (.slice (some ⟨kb, ko, none⟩) 32 kc)), (4, .p 1 0), (5, .p 2 0), (6, .p 3 0), (9, .v (.int .i64 2)), (10, .v (.int .u64 (rot32 (keyN x 2)))), (91, .v (.agg #[.int .u64 (rot32 (keyN x 0)), .int .u64 (rot32 (keyN x 1)), .int .u64 (rot32 (keyN x 2)), .int .u64 (rot32 (keyN x 3))])), (92, .v (.int .i64 2))]) tabOk h38 M36 rfl (by kernel_rfl) ⟨by kernel_rfl, by kernel_rfl, by kernel_rfl, by kernel_rfl, by kernel_rfl, by kernel_rfl, by kernel_rfl, by kernel_rfl, by kernel_rfl, trivial⟩ (fun a39 h39 d39 => ?_)
  show Code.wp _ _ _ _ _
  replace d39 := d39.trans d38
  clear h38 d38
  refine regM_store (N := 107) (T := TT) (n := 10) (k := 0) (i := 6) (u := .int .u64 (Go.bits .xor .u64 (I1 2) (rot32 (keyN x 2)))) (E2 := [(0, .p 0 0), (1, .v (.slice (some ⟨kb, ko, none⟩) 32 kc)), (4, .p 1 0), (5, .p 2 0), (6, .p 3 0), (91, .v (.agg #[.int .u64 (rot32 (keyN x 0)), .int .u64 (rot32 (keyN x 1)), .int .u64 (rot32 (keyN x 2)), .int .u64 (rot32 (keyN x 3))])), (92, .v (.int .i64 2))]) (by kernel_rfl) tabOk h39 M36 rfl (by kernel_rfl) (by kernel_rfl) rfl ⟨by kernel_rfl, by kernel_rfl, by kernel_rfl, by kernel_rfl, by kernel_rfl, by kernel_rfl, by kernel_rfl, trivial⟩ (fun _ _ _ _ hd h => And.intro (hd.trans (And.left h)) (And.right h)) (fun a40 W40 h40 d40 M40 G40 => ?_)
  show Code.wp _ _ _ _ _
  replace d40 := d40.trans d39
  replace M40 : Mw (bg [⟨g, T, (ex + 16), m⟩, ⟨p0, 61, 4, (fun i => .int .u64 (I0 i))⟩, ⟨p1, 61, 4, (fun i => .int .u64 (I1 i))⟩, ⟨p2, 61, 4, (fun _ => .int .u64 0)⟩]) [⟨g, T, (ex + 16), (upm (upm (upm (upm (upm (upm (upm (cpB (cpB m 8 4 (fun j => .int .u64 (I0 (0 + j)))) 12 4 (fun j => .int .u64 (I1 (0 + j)))) 0 (.int .u64 (Go.bits .xor .u64 (I0 0) (keyN x 0)))) 1 (.int .u64 (Go.bits .xor .u64 (I0 1) (keyN x 1)))) 2 (.int .u64 (Go.bits .xor .u64 (I0 2) (keyN x 2)))) 3 (.int .u64 (Go.bits .xor .u64 (I0 3) (keyN x 3)))) 4 (.int .u64 (Go.bits .xor .u64 (I1 0) (rot32 (keyN x 0))))) 5 (.int .u64 (Go.bits .xor .u64 (I1 1) (rot32 (keyN x 1))))) 6 (.int .u64 (Go.bits .xor .u64 (I1 2) (rot32 (keyN x 2)))))⟩, ⟨p0, 61, 4, (fun i => .int .u64 (I0 i))⟩, ⟨p1, 61, 4, (fun i => .int .u64 (I1 i))⟩, ⟨p2, 61, 4, (upm (upm (upm (upm (upm (upm (upm (upm (fun _ => .int .u64 0) 0 (.int .u64 (keyN x 0))) 1 (.int .u64 (keyN x 1))) 2 (.int .u64 (keyN x 2))) 3 (.int .u64 (keyN x 3))) 0 (.int .u64 (rot32 (keyN x 0)))) 1 (.int .u64 (rot32 (keyN x 1)))) 2 (.int .u64 (rot32 (keyN x 2)))) 3 (.int .u64 (rot32 (keyN x 3))))⟩] W40 := M40
  have F40 := Fr.comp F36 G40 (fun x hx => Or.inl hx)
  clear F36 G40
  clear h39 d39 M36
  refine regM_seq (N := 107) (T := TT) (n := 2) (E2 := [(0, .p 0 0), (1, .v (.slice (some ⟨kb, ko, none⟩) 32 kc)), (4, .p 1 0), (5, .p 2 0), (6, .p 3 0), (91, .v (.agg #[.int .u64 (rot32 (keyN x 0)), .int .u64 (rot32 (keyN x 1)), .int .u64 (rot32 (keyN x 2)), .int .u64 (rot32 (keyN x 3))])), (92, .v (.int .i64 3))]) tabOk h40 M40 rfl (by kernel_rfl) ⟨by kernel_rfl, by kernel_rfl, by kernel_rfl, by kernel_rfl, by kernel_rfl, by kernel_rfl, by kernel_rfl, trivial⟩ (fun a41 h41 d41 => ?_)
  replace d41 := d41.trans d40
  clear h40 d40
  show Code.rounds _ _ _ _ _ _
  rw [rounds_succ]
  refine wp_seq ?_
  refine regM_seq (N := 107) (T := TT) (n := 1) (E2 := [(0, .p 0 0), (1, .v (.slice (some ⟨kb, ko, none⟩) 32 kc)), (4, .p 1 0), (5, .p 2 0), (6, .p 3 0), (91, .v (.agg #[.int .u64 (rot32 (keyN x 0)), .int .u64 (rot32 (keyN x 1)), .int .u64 (rot32 (keyN x 2)), .int .u64 (rot32 (keyN x 3))])), (92, .v (.int .i64 3)), (93, .v (.bool true))]) tabOk h41 M40 rfl (by kernel_rfl) ⟨by kernel_rfl, by kernel_rfl, by kernel_rfl, by kernel_rfl, by kernel_rfl, by kernel_rfl, by kernel_rfl, by kernel_rfl, trivial⟩ (fun a42 h42 d42 => ?_)
  show Code.wp _ _ _ _ _
  replace d42 := d42.trans d41
  clear h41 d41
  refine wp_seq ?_
  refine wp_cond_true (h42.2 93 _ rfl) ?_
  refine wp_skip ?_
  show Code.wp _ _ _ _ _
  refine wp_seq ?_
  refine wp_block ?_
  refine wp_seq ?_
  refine regM_seq (N := 107) (T := TT) (n := 4) (E2 := [(0, .p 0 0), (1, .v (.slice (some ⟨kb, ko, none⟩) 32 kc)), (4, .p 1 0), (5, .p 2 0), (6, .p 3 0), (9, .v (.int .i64 3)), (10, .v (.int .u64 (rot32 (keyN x 3)))), (91, .v (.agg #[.int .u64 (rot32 (keyN x 0)), .int .u64 (rot32 (keyN x 1)), .int .u64 (rot32 (keyN x 2)), .int .u64 (rot32 (keyN x 3))])), (92, .v (.int .i64 3))]) tabOk h42 M40 rfl (by kernel_rfl) ⟨by kernel_rfl, by kernel_rfl, by kernel_rfl, by kernel_rfl, by kernel_rfl, by kernel_rfl, by kernel_rfl, by kernel_rfl, by kernel_rfl, trivial⟩ (fun a43 h43 d43 => ?_)
  show Code.wp _ _ _ _ _
  replace d43 := d43.trans d42
  clear h42 d42
  refine regM_store (N := 107) (T := TT) (n := 10) (k := 0) (i := 7) (u := .int .u64 (Go.bits .xor .u64 (I1 3) (rot32 (keyN x 3)))) (E2 := [(0, .p 0 0), (1, .v (.slice (some ⟨kb, ko, none⟩) 32 kc)), (4, .p 1 0), (5, .p 2 0), (6, .p 3 0), (91, .v (.agg #[.int .u64 (rot32 (keyN x 0)), .int .u64 (rot32 (keyN x 1)), .int .u64 (rot32 (keyN x 2)), .int .u64 (rot32 (keyN x 3))])), (92, .v (.int .i64 3))]) (by kernel_rfl) tabOk h43 M40 rfl (by kernel_rfl) (by kernel_rfl) rfl ⟨by kernel_rfl, by kernel_rfl, by kernel_rfl, by kernel_rfl, by kernel_rfl, by kernel_rfl, by kernel_rfl, trivial⟩ (fun _ _ _ _ hd h => And.intro (hd.trans (And.left h)) (And.right h)) (fun a44 W44 h44 d44 M44 G44 => ?_)
  show Code.wp _ _ _ _ _
  replace d44 := d44.trans d43
  replace M44 : Mw (bg [⟨g, T, (ex + 16), m⟩, ⟨p0, 61, 4, (fun i => .int .u64 (I0 i))⟩, ⟨p1, 61, 4, (fun i => .int .u64 (I1 i))⟩, ⟨p2, 61, 4, (fun _ => .int .u64 0)⟩]) [⟨g, T, (ex + 16), (upm (upm (upm (upm (upm (upm (upm (upm (cpB (cpB m 8 4 (fun j => .int .u64 (I0 (0 + j)))) 12 4 (fun j => .int .u64 (I1 (0 + j)))) 0 (.int .u64 (Go.bits .xor .u64 (I0 0) (keyN x 0)))) 1 (.int .u64 (Go.bits .xor .u64 (I0 1) (keyN x 1)))) 2 (.int .u64 (Go.bits .xor .u64 (I0 2) (keyN x 2)))) 3 (.int .u64 (Go.bits .xor .u64 (I0 3) (keyN x 3)))) 4 (.int .u64 (Go.bits .xor .u64 (I1 0) (rot32 (keyN x 0))))) 5 (.int .u64 (Go.bits .xor .u64 (I1 1) (rot32 (keyN x 1))))) 6 (.int .u64 (Go.bits .xor .u64 (I1 2) (rot32 (keyN x 2))))) 7 (.int .u64 (Go.bits .xor .u64 (I1 3) (rot32 (keyN x 3)))))⟩, ⟨p0, 61, 4, (fun i => .int .u64 (I0 i))⟩, ⟨p1, 61, 4, (fun i => .int .u64 (I1 i))⟩, ⟨p2, 61, 4, (upm (upm (upm (upm (upm (upm (upm (upm (fun _ => .int .u64 0) 0 (.int .u64 (keyN x 0))) 1 (.int .u64 (keyN x 1))) 2 (.int .u64 (keyN x 2))) 3 (.int .u64 (keyN x 3))) 0 (.int .u64 (rot32 (keyN x 0)))) 1 (.int .u64 (rot32 (keyN x 1)))) 2 (.int .u64 (rot32 (keyN x 2)))) 3 (.int .u64 (rot32 (keyN x 3))))⟩] W44 := M44
  have F44 := Fr.comp F40 G44 (fun x hx => Or.inl hx)
  clear F40 G44
  clear h43 d43 M40
  refine regM_seq (N := 107) (T := TT) (n := 2) (E2 := [(0, .p 0 0), (1, .v (.slice (some ⟨kb, ko, none⟩) 32 kc)), (4, .p 1 0), (5, .p 2 0), (6, .p 3 0), (91, .v (.agg #[.int .u64 (rot32 (keyN x 0)), .int .u64 (rot32 (keyN x 1)), .int .u64 (rot32 (keyN x 2)), .int .u64 (rot32 (keyN x 3))])), (92, .v (.int .i64 4))]) tabOk h44 M44 rfl (by kernel_rfl) ⟨by kernel_rfl, by kernel_rfl, by kernel_rfl, by kernel_rfl, by kernel_rfl, by kernel_rfl, by kernel_rfl, trivial⟩ (fun a45 h45 d45 => ?_)
  replace d45 := d45.trans d44
  clear h44 d44
  show Code.rounds _ _ _ _ _ _
  rw [rounds_succ]
  refine wp_seq ?_
  refine regM_seq (N := 107) (T := TT) (n := 1) (E2 := [(0, .p 0 0), (1, .v (.slice (some ⟨kb, ko, none⟩) 32 kc)), (4, .p 1 0), (5, .p 2 0), (6, .p 3 0), (91, .v (.agg #[.int .u64 (rot32 (keyN x 0)), .int .u64 (rot32 (keyN x 1)), .int .u64 (rot32 (keyN x 2)), .int .u64 (rot32 (keyN x 3))])), (92, .v (.int .i64 4)), (93, .v (.bool false))]) tabOk h45 M44 rfl (by kernel_rfl) ⟨by kernel_rfl, by kernel_rfl, by kernel_rfl, by kernel_rfl, by kernel_rfl, by kernel_rfl, by kernel_rfl, by kernel_rfl, trivial⟩ (fun a46 h46 d46 => ?_)
  show Code.wp _ _ _ _ _
  replace d46 := d46.trans d45
  clear h45 d45
  refine wp_seq ?_
  refine wp_cond_false (h46.2 93 _ rfl) ?_
  refine wp_exit ?_
  refine then_exit (then_exit (exit_in ?_))
  refine ⟨d46, _, results_none rfl _ _ _, rfl, (M44.2.get (k := 0) rfl).eq ?_, F44⟩
  intro i hi
  show _ = stm (ini (keyN x)) m i
  unfold stm
  by_cases h16 : i < 16
  · rw [if_pos h16]
    exact ini_fin (keyN x) m i h16
  · rw [if_neg h16]
    exact ini_far (keyN x) m i h16
set_option maxHeartbeats 8000000 in
set_option maxRecDepth 100000 in
theorem ini_walk (g T ex kb ko kc : Nat) (x : Nat → Int) (m : Nat → Value) (w : World) (hkc : 32 ≤ kc) (hg : (⟨g, T, ex + 16, m⟩ : Bl).In w) (hx : Bts kb ko 32 x w) :
    Calls Tryd.prog 46 #[.pointer (some ⟨g, 0, none⟩), .slice (some ⟨kb, ko, none⟩) 32 kc] w fun e w' => e = .returned (.tuple #[]) ∧ (⟨g, T, ex + 16, stm (ini (keyN x)) m⟩ : Bl).In w' ∧ Fr [g] w w' := by
  have lg : g < w.heap.size := hg.lt
  have lk : kb < w.heap.size := World.block_lt_of_cell? w _ (hx 0 (by decide))
  have F1 : Fr [] w ((w.alloc (.cells #[.int .u64 15845587454020865583, .int .u64 11820040416388919760, .int .u64 1376283091369227076, .int .u64 2611923443488327891] 61)).alloc (.cells #[.int .u64 4310963063287117203, .int .u64 13883737187602762380, .int .u64 13714699805381954668, .int .u64 4983270260364809079] 61)) := ((Fr.refl [] w).alloc _).alloc _
  have F2 : Fr [] w (((w.alloc (.cells #[.int .u64 15845587454020865583, .int .u64 11820040416388919760, .int .u64 1376283091369227076, .int .u64 2611923443488327891] 61)).alloc (.cells #[.int .u64 4310963063287117203, .int .u64 13883737187602762380, .int .u64 13714699805381954668, .int .u64 4983270260364809079] 61)).alloc (.cells #[.int .u64 0, .int .u64 0, .int .u64 0, .int .u64 0] 61)) := F1.alloc _
  have M0 : Mw (bg [⟨g, T, ex + 16, m⟩, ⟨w.heap.size, 61, 4, fun i => .int .u64 (I0 i)⟩, ⟨w.heap.size + 1, 61, 4, fun i => .int .u64 (I1 i)⟩, ⟨w.heap.size + 1 + 1, 61, 4, fun _ => .int .u64 0⟩]) [⟨g, T, ex + 16, m⟩, ⟨w.heap.size, 61, 4, fun i => .int .u64 (I0 i)⟩, ⟨w.heap.size + 1, 61, 4, fun i => .int .u64 (I1 i)⟩, ⟨w.heap.size + 1 + 1, 61, 4, fun _ => .int .u64 0⟩] (((w.alloc (.cells #[.int .u64 15845587454020865583, .int .u64 11820040416388919760, .int .u64 1376283091369227076, .int .u64 2611923443488327891] 61)).alloc (.cells #[.int .u64 4310963063287117203, .int .u64 13883737187602762380, .int .u64 13714699805381954668, .int .u64 4983270260364809079] 61)).alloc (.cells #[.int .u64 0, .int .u64 0, .int .u64 0, .int .u64 0] 61)) := by
    refine ⟨rfl, hg.on F2 (by simp), ?_, ?_, ?_, ?_, ?_, ?_, by simp, trivial⟩
    · intro c hc
      simp only [List.mem_cons, List.not_mem_nil, or_false] at hc
      rcases hc with rfl | rfl | rfl
      · show w.heap.size ≠ g
        omega
      · show w.heap.size + 1 ≠ g
        omega
      · show w.heap.size + 1 + 1 ≠ g
        omega
    · refine ⟨_, blk_alloc (blk_alloc (MapKept.heap_alloc w _).1 _) _, rfl, fun i hi => ?_⟩
      have hi' : i < 4 := hi
      rcases (by omega : i = 0 ∨ i = 1 ∨ i = 2 ∨ i = 3) with rfl | rfl | rfl | rfl
      all_goals rfl
    · intro c hc
      simp only [List.mem_cons, List.not_mem_nil, or_false] at hc
      rcases hc with rfl | rfl
      · show w.heap.size + 1 ≠ w.heap.size
        omega
      · show w.heap.size + 1 + 1 ≠ w.heap.size
        omega
    · refine ⟨_, blk_alloc (by have h := (MapKept.heap_alloc (w.alloc (.cells #[.int .u64 15845587454020865583, .int .u64 11820040416388919760, .int .u64 1376283091369227076, .int .u64 2611923443488327891] 61)) (.cells #[.int .u64 4310963063287117203, .int .u64 13883737187602762380, .int .u64 13714699805381954668, .int .u64 4983270260364809079] 61)).1; rw [alloc_size] at h; exact h) _, rfl, fun i hi => ?_⟩
      have hi' : i < 4 := hi
      rcases (by omega : i = 0 ∨ i = 1 ∨ i = 2 ∨ i = 3) with rfl | rfl | rfl | rfl
      all_goals rfl
    · intro c hc
      simp only [List.mem_cons, List.not_mem_nil, or_false] at hc
      subst hc
      show w.heap.size + 1 + 1 ≠ w.heap.size + 1
      omega
    · refine ⟨_, by have h := (MapKept.heap_alloc ((w.alloc (.cells #[.int .u64 15845587454020865583, .int .u64 11820040416388919760, .int .u64 1376283091369227076, .int .u64 2611923443488327891] 61)).alloc (.cells #[.int .u64 4310963063287117203, .int .u64 13883737187602762380, .int .u64 13714699805381954668, .int .u64 4983270260364809079] 61)) (.cells #[.int .u64 0, .int .u64 0, .int .u64 0, .int .u64 0] 61)).1; rw [alloc_size, alloc_size] at h; exact h, rfl, fun i hi => ?_⟩
      have hi' : i < 4 := hi
      rcases (by omega : i = 0 ∨ i = 1 ∨ i = 2 ∨ i = 3) with rfl | rfl | rfl | rfl
      all_goals rfl
  have E0 := Lib.hid (And.intro M0 (And.intro (hx.on F2 (by simp)) (F2.mono (S' := [g]) (by simp))))
  clear hg hx F1 F2 M0
  go_enter Tryd.func46, Tryd.ntmps46
  go_wp2_with fail
  exact ini_rest g T ex w.heap.size (w.heap.size + 1) (w.heap.size + 1 + 1) kb ko kc x m w _ _ hkc (by omega) (Nat.le_refl _) (by omega) (by omega) _ _ (by assumption) E0.out.1 E0.out.2.1 E0.out.2.2 (has_list rfl ⟨rfl, rfl, rfl, rfl, rfl, trivial⟩) rfl
set_option maxHeartbeats 8000000 in
set_option maxRecDepth 100000 in
theorem initialize_walk (g T ex kb ko kc : Nat) (x : Nat → Int) (m : Nat → Value) (w : World) (hkc : 32 ≤ kc) (hg : (⟨g, T, ex + 16, m⟩ : Bl).In w) (hx : Bts kb ko 32 x w) :
    Calls Tryd.prog 39 #[.pointer (some ⟨g, 0, none⟩), .slice (some ⟨kb, ko, none⟩) 32 kc] w fun e w' => e = .returned (.tuple #[]) ∧ (⟨g, T, ex + 16, stm (ini (keyN x)) m⟩ : Bl).In w' ∧ Fr [g] w w' := by
  have P0 := ini_walk g T ex kb ko kc x m w hkc hg hx
  go_enter Tryd.func39, Tryd.ntmps39
  go_wp2_with fail
  refine P0.mono ?_
  rintro e w1 ⟨rfl, h⟩
  have E1 := Lib.hid h
  clear h P0
  go_wp2_with fail
  refine bodyPost_end (results_none rfl _ _ _) rfl ?_
  exact ⟨rfl, E1.out⟩
set_option maxHeartbeats 8000000 in
set_option maxRecDepth 100000 in
theorem finalize8_walk (g T ob To no : Nat) (s : Nat → Int) (m om : Nat → Value) (w : World) (hs : (⟨g, T, 16, stm s m⟩ : Bl).In w) (ho : (⟨ob, To, no, om⟩ : Bl).In w) (hne : ob ≠ g) (hno : 8 ≤ no) :
    Calls Tryd.prog 42 #[.slice (some ⟨ob, 0, none⟩) 8 8, .pointer (some ⟨g, 0, none⟩)] w fun e w' => e = .returned (.tuple #[]) ∧ (⟨ob, To, no, fin8 (mixN 4 s) om⟩ : Bl).In w' ∧ Fr [g, ob] w w' := by
  have P0 := fin8_walk g T ob To no s m om w hs ho hne hno
  go_enter Tryd.func42, Tryd.ntmps42
  go_wp2_with fail
  refine P0.mono ?_
  rintro e w1 ⟨rfl, h⟩
  have E1 := Lib.hid h
  clear h P0
  go_wp2_with fail
  refine bodyPost_end (results_none rfl _ _ _) rfl ?_
  exact ⟨rfl, E1.out⟩
set_option maxHeartbeats 8000000 in
set_option maxRecDepth 100000 in
theorem finalize32_walk (g T ob To no : Nat) (s : Nat → Int) (m om : Nat → Value) (w : World) (hs : (⟨g, T, 16, stm s m⟩ : Bl).In w) (ho : (⟨ob, To, no, om⟩ : Bl).In w) (hne : ob ≠ g) (hno : 32 ≤ no) :
    Calls Tryd.prog 42 #[.slice (some ⟨ob, 0, none⟩) 32 32, .pointer (some ⟨g, 0, none⟩)] w fun e w' => e = .returned (.tuple #[]) ∧ (⟨ob, To, no, fin32 (mixN 10 s) om⟩ : Bl).In w' ∧ Fr [g, ob] w w' := by
  have P0 := fin32_walk g T ob To no s m om w hs ho hne hno
  go_enter Tryd.func42, Tryd.ntmps42
  go_wp2_with fail
  refine P0.mono ?_
  rintro e w1 ⟨rfl, h⟩
  have E1 := Lib.hid h
  clear h P0
  go_wp2_with fail
  refine bodyPost_end (results_none rfl _ _ _) rfl ?_
  exact ⟨rfl, E1.out⟩
end Go.Proofs.YtnehminojlocoaaDoor.PAll
namespace Go.Proofs.YtnehminojlocoaaDoor.PAll
open Go.RowKit Go.Proofs.YtnehminojlocoaaDoorW.PrintWords Go.Proofs.YtnehminojlocoaaDoorW.PrintLast Go.Proofs.YtnehminojlocoaaDoorW.PrintMore
set_option linter.unusedVariables false
set_option linter.unusedSimpArgs false
/-- What is added ahead of the last n octets. -/
def modN (n : Nat) : Int := (IntKind.u64.wrap (IntKind.u64.wrap (IntKind.u64.wrap (n : Int) * 4294967296) + IntKind.u64.wrap (n : Int)))
/-- A number of 32 bits, turned. -/
def trn (n : Nat) (x : Int) : Int := Go.bits .or .u32 (IntKind.u32.wrap (x * ((2 ^ (min n 32) : Nat) : Int))) (x / ((2 ^ (min (32 - n) 32) : Nat) : Int))
def trn2 (n : Nat) (x : Int) : Int := Go.bits .or .u64 (IntKind.u64.wrap (IntKind.u64.wrap (trn n (IntKind.u32.wrap (x / 4294967296))) * 4294967296)) (IntKind.u64.wrap (trn n (IntKind.u32.wrap x)))
/-- A state ahead of its last n octets. -/
def pre (n : Nat) (s : Nat → Int) (i : Nat) : Int := if i < 4 then IntKind.u64.wrap (s i + modN n) else if i < 8 then trn2 n (s i) else s i
theorem pre_fin (n : Nat) (s : Nat → Int) (m : Nat → Value) (i : Nat) (h : i < 16) : (upm (upm (upm (upm (upm (upm (upm (upm (stm s m) 0 (.int .u64 (IntKind.u64.wrap ((s 0) + modN n)))) 1 (.int .u64 (IntKind.u64.wrap ((s 1) + modN n)))) 2 (.int .u64 (IntKind.u64.wrap ((s 2) + modN n)))) 3 (.int .u64 (IntKind.u64.wrap ((s 3) + modN n)))) 4 (.int .u64 (trn2 n (s 4)))) 5 (.int .u64 (trn2 n (s 5)))) 6 (.int .u64 (trn2 n (s 6)))) 7 (.int .u64 (trn2 n (s 7)))) i = .int .u64 (pre n s i) := by
  rcases (by omega : i = 0 ∨ i = 1 ∨ i = 2 ∨ i = 3 ∨ i = 4 ∨ i = 5 ∨ i = 6 ∨ i = 7 ∨ i = 8 ∨ i = 9 ∨ i = 10 ∨ i = 11 ∨ i = 12 ∨ i = 13 ∨ i = 14 ∨ i = 15) with rfl | rfl | rfl | rfl | rfl | rfl | rfl | rfl | rfl | rfl | rfl | rfl | rfl | rfl | rfl | rfl
  all_goals simp [upm, stm, pre]
theorem pre_far (n : Nat) (s : Nat → Int) (m : Nat → Value) (i : Nat) (h : ¬ i < 16) : (upm (upm (upm (upm (upm (upm (upm (upm (stm s m) 0 (.int .u64 (IntKind.u64.wrap ((s 0) + modN n)))) 1 (.int .u64 (IntKind.u64.wrap ((s 1) + modN n)))) 2 (.int .u64 (IntKind.u64.wrap ((s 2) + modN n)))) 3 (.int .u64 (IntKind.u64.wrap ((s 3) + modN n)))) 4 (.int .u64 (trn2 n (s 4)))) 5 (.int .u64 (trn2 n (s 5)))) 6 (.int .u64 (trn2 n (s 6)))) 7 (.int .u64 (trn2 n (s 7)))) i = m i := by
  unfold upm stm
  repeat rw [if_neg (by omega)]
theorem Mw.eq0 {β : Nat → Nat} {b : Bl} {L : List Bl} {W : World} {m : Nat → Value} (h : Mw β (b :: L) W) (hm : ∀ i, i < b.n → b.m i = m i) : Mw β (⟨b.g, b.T, b.n, m⟩ :: L) W := by
  refine ⟨?_, h.2.1.eq hm, h.2.2.1, h.2.2.2⟩
  rw [← h.1]
  funext j
  cases j <;> rfl
noncomputable def hb1 : Code := match Tryd.f41.body with
  | some (.seq _ c) => c
  | _ => .skip
noncomputable def hb16 : Code := match Tryd.f41.body with
  | some (.seq _ (.seq _ (.seq _ (.seq _ c)))) => c
  | _ => .skip
set_option maxHeartbeats 8000000 in
set_option maxRecDepth 100000 in
theorem hb_loops (g T bb Tb nb kb bo n : Nat) (s : Nat → Int) (m mb : Nat → Value) (w W0 : World) (a0 : Act) (hn : n < 32) (R : Ending → World → Prop) (β : Nat → Nat)
    (M0 : Mw β [⟨g, T, 16, (stm s m)⟩, ⟨bb, Tb, nb, mb⟩, ⟨kb, 71, 32, (fun _ => .int .u8 0)⟩] W0) (F0 : Fr [g, kb] w W0) (h0 : Has 149 β [(0, .p 0 0), (1, .p 1 bo), (2, .v (.int .i64 (n : Int))), (6, .p 2 0)] a0) (d0 : a0.defers = [])
    (h : ∀ a W, Mw β [⟨g, T, 16, stm (pre n s) m⟩, ⟨bb, Tb, nb, mb⟩, ⟨kb, 71, 32, (fun _ => .int .u8 0)⟩] W → Fr [g, kb] w W → Has 149 β [(0, .p 0 0), (1, .p 1 bo), (2, .v (.int .i64 (n : Int))), (6, .p 2 0)] a → a.defers = [] → Code.wp Tryd.prog hb16 (bodyPost Tryd.prog Tryd.f41 R) a W) :
    Code.wp Tryd.prog hb1 (bodyPost Tryd.prog Tryd.f41 R) a0 W0 := by
  have hn1 : IntKind.u64.wrap (n : Int) = (n : Int) := IntWalk.u64_in _ ⟨by omega, by omega⟩
  have hn2 : IntKind.u64.wrap (IntKind.i64.wrap (32 - (n : Int))) = ((32 - n : Nat) : Int) := by
    rw [i64_w, show wrap64 (32 - (n : Int)) = ((32 - n : Nat) : Int) by unfold wrap64; omega]
    exact IntWalk.u64_in _ ⟨by omega, by omega⟩
  obtain ⟨rfl, _⟩ := id M0
  refine wp_seq ?_
  refine regM_seq (N := 149) (T := TT) (n := 7) (E2 := [(0, .p 0 0), (1, .p 1 bo), (2, .v (.int .i64 (n : Int))), (6, .p 2 0), (7, .v (.int .u64 (modN n)))]) tabOk h0 M0 rfl (by kernel_rfl) ⟨by kernel_rfl, by kernel_rfl, by kernel_rfl, by kernel_rfl, by kernel_rfl, trivial⟩ (fun a1 h1 d1 => ?_)
  show Code.wp _ _ _ _ _
  replace d1 := d1.trans d0
  clear h0 d0
  refine wp_seq ?_
  refine wp_seq ?_
  refine regM_seq (N := 149) (T := TT) (n := 5) (E2 := [(0, .p 0 0), (1, .p 1 bo), (2, .v (.int .i64 (n : Int))), (6, .p 2 0), (7, .v (.int .u64 (modN n))), (24, .v (.int .i64 4)), (25, .v (.int .i64 0))]) tabOk h1 M0 rfl (by kernel_rfl) ⟨by kernel_rfl, by kernel_rfl, by kernel_rfl, by kernel_rfl, by kernel_rfl, by kernel_rfl, by kernel_rfl, trivial⟩ (fun a2 h2 d2 => ?_)
  show Code.wp _ _ _ _ _
  replace d2 := d2.trans d1
  clear h1 d1
  refine wp_block ?_
  refine wp_loop_rounds 5 ?_
  rw [rounds_succ]
  refine wp_seq ?_
  refine regM_seq (N := 149) (T := TT) (n := 1) (E2 := [(0, .p 0 0), (1, .p 1 bo), (2, .v (.int .i64 (n : Int))), (6, .p 2 0), (7, .v (.int .u64 (modN n))), (24, .v (.int .i64 4)), (25, .v (.int .i64 0)), (26, .v (.bool true))]) tabOk h2 M0 rfl (by kernel_rfl) ⟨by kernel_rfl, by kernel_rfl, by kernel_rfl, by kernel_rfl, by kernel_rfl, by kernel_rfl, by kernel_rfl, by kernel_rfl, trivial⟩ (fun a3 h3 d3 => ?_)
  show Code.wp _ _ _ _ _
  replace d3 := d3.trans d2
  clear h2 d2
  refine wp_seq ?_
  refine wp_cond_true (h3.2 26 _ rfl) ?_
  refine wp_skip ?_
  show Code.wp _ _ _ _ _
  refine wp_seq ?_
  refine wp_block ?_
  refine wp_seq ?_
  refine regM_seq (N := 149) (T := TT) (n := 2) (E2 := [(0, .p 0 0), (1, .p 1 bo), (2, .v (.int .i64 (n : Int))), (6, .p 2 0), (7, .v (.int .u64 (modN n))), (8, .v (.int .i64 0)), (24, .v (.int .i64 4)), (25, .v (.int .i64 0))]) tabOk h3 M0 rfl (by kernel_rfl) ⟨by kernel_rfl, by kernel_rfl, by kernel_rfl, by kernel_rfl, by kernel_rfl, by kernel_rfl, by kernel_rfl, by kernel_rfl, trivial⟩ (fun a4 h4 d4 => ?_)
  show Code.wp _ _ _ _ _
  replace d4 := d4.trans d3
  clear h3 d3
  refine regM_store (N := 149) (T := TT) (n := 9) (k := 0) (i := 0) (u := .int .u64 (IntKind.u64.wrap ((s 0) + modN n))) (E2 := [(0, .p 0 0), (1, .p 1 bo), (2, .v (.int .i64 (n : Int))), (6, .p 2 0), (7, .v (.int .u64 (modN n))), (24, .v (.int .i64 4)), (25, .v (.int .i64 0))]) (by kernel_rfl) tabOk h4 M0 rfl (by kernel_rfl) (by kernel_rfl) rfl ⟨by kernel_rfl, by kernel_rfl, by kernel_rfl, by kernel_rfl, by kernel_rfl, by kernel_rfl, by kernel_rfl, trivial⟩ (fun _ _ _ _ hd h => And.intro (hd.trans (And.left h)) (And.right h)) (fun a5 W5 h5 d5 M5 G5 => ?_)
  show Code.wp _ _ _ _ _
  replace d5 := d5.trans d4
  replace M5 : Mw (bg [⟨g, T, 16, (stm s m)⟩, ⟨bb, Tb, nb, mb⟩, ⟨kb, 71, 32, (fun _ => .int .u8 0)⟩]) [⟨g, T, 16, (upm (stm s m) 0 (.int .u64 (IntKind.u64.wrap ((s 0) + modN n))))⟩, ⟨bb, Tb, nb, mb⟩, ⟨kb, 71, 32, (fun _ => .int .u8 0)⟩] W5 := M5
  have F5 := Fr.comp F0 G5 (fun x hx => Or.inl (by simp at hx; subst hx; simp))
  clear F0 G5
  clear h4 d4 M0
  refine regM_seq (N := 149) (T := TT) (n := 2) (E2 := [(0, .p 0 0), (1, .p 1 bo), (2, .v (.int .i64 (n : Int))), (6, .p 2 0), (7, .v (.int .u64 (modN n))), (24, .v (.int .i64 4)), (25, .v (.int .i64 1))]) tabOk h5 M5 rfl (by kernel_rfl) ⟨by kernel_rfl, by kernel_rfl, by kernel_rfl, by kernel_rfl, by kernel_rfl, by kernel_rfl, by kernel_rfl, trivial⟩ (fun a6 h6 d6 => ?_)
  replace d6 := d6.trans d5
  clear h5 d5
  show Code.rounds _ _ _ _ _ _
  rw [rounds_succ]
  refine wp_seq ?_
  refine regM_seq (N := 149) (T := TT) (n := 1) (E2 := [(0, .p 0 0), (1, .p 1 bo), (2, .v (.int .i64 (n : Int))), (6, .p 2 0), (7, .v (.int .u64 (modN n))), (24, .v (.int .i64 4)), (25, .v (.int .i64 1)), (26, .v (.bool true))]) tabOk h6 M5 rfl (by kernel_rfl) ⟨by kernel_rfl, by kernel_rfl, by kernel_rfl, by kernel_rfl, by kernel_rfl, by kernel_rfl, by kernel_rfl, by kernel_rfl, trivial⟩ (fun a7 h7 d7 => ?_)
  show Code.wp _ _ _ _ _
  replace d7 := d7.trans d6
  clear h6 d6
  refine wp_seq ?_
  refine wp_cond_true (h7.2 26 _ rfl) ?_
  refine wp_skip ?_
  show Code.wp _ _ _ _ _
  refine wp_seq ?_
  refine wp_block ?_
  refine wp_seq ?_
  refine regM_seq (N := 149) (T := TT) (n := 2) (E2 := [(0, .p 0 0), (1, .p 1 bo), (2, .v (.int .i64 (n : Int))), (6, .p 2 0), (7, .v (.int .u64 (modN n))), (8, .v (.int .i64 1)), (24, .v (.int .i64 4)), (25, .v (.int .i64 1))]) tabOk h7 M5 rfl (by kernel_rfl) ⟨by kernel_rfl, by kernel_rfl, by kernel_rfl, by kernel_rfl, by kernel_rfl, by kernel_rfl, by kernel_rfl, by kernel_rfl, trivial⟩ (fun a8 h8 d8 => ?_)
  show Code.wp _ _ _ _ _
  replace d8 := d8.trans d7
  clear h7 d7
  refine regM_store (N := 149) (T := TT) (n := 9) (k := 0) (i := 1) (u := .int .u64 (IntKind.u64.wrap ((s 1) + modN n))) (E2 := [(0, .p 0 0), (1, .p 1 bo), (2, .v (.int .i64 (n : Int))), (6, .p 2 0), (7, .v (.int .u64 (modN n))), (24, .v (.int .i64 4)), (25, .v (.int .i64 1))]) (by kernel_rfl) tabOk h8 M5 rfl (by kernel_rfl) (by kernel_rfl) rfl ⟨by kernel_rfl, by kernel_rfl, by kernel_rfl, by kernel_rfl, by kernel_rfl, by kernel_rfl, by kernel_rfl, trivial⟩ (fun _ _ _ _ hd h => And.intro (hd.trans (And.left h)) (And.right h)) (fun a9 W9 h9 d9 M9 G9 => ?_)
  show Code.wp _ _ _ _ _
  replace d9 := d9.trans d8
  replace M9 : Mw (bg [⟨g, T, 16, (stm s m)⟩, ⟨bb, Tb, nb, mb⟩, ⟨kb, 71, 32, (fun _ => .int .u8 0)⟩]) [⟨g, T, 16, (upm (upm (stm s m) 0 (.int .u64 (IntKind.u64.wrap ((s 0) + modN n)))) 1 (.int .u64 (IntKind.u64.wrap ((s 1) + modN n))))⟩, ⟨bb, Tb, nb, mb⟩, ⟨kb, 71, 32, (fun _ => .int .u8 0)⟩] W9 := M9
  have F9 := Fr.comp F5 G9 (fun x hx => Or.inl (by simp at hx; subst hx; simp))
  clear F5 G9
  clear h8 d8 M5
  refine regM_seq (N := 149) (T := TT) (n := 2) (E2 := [(0, .p 0 0), (1, .p 1 bo), (2, .v (.int .i64 (n : Int))), (6, .p 2 0), (7, .v (.int .u64 (modN n))), (24, .v (.int .i64 4)), (25, .v (.int .i64 2))]) tabOk h9 M9 rfl (by kernel_rfl) ⟨by kernel_rfl, by kernel_rfl, by kernel_rfl, by kernel_rfl, by kernel_rfl, by kernel_rfl, by kernel_rfl, trivial⟩ (fun a10 h10 d10 => ?_)
  replace d10 := d10.trans d9
  clear h9 d9
  show Code.rounds _ _ _ _ _ _
  rw [rounds_succ]
  refine wp_seq ?_
  refine regM_seq (N := 149) (T := TT) (n := 1) (E2 := [(0, .p 0 0), (1, .p 1 bo), (2, .v (.int .i64 (n : Int))), (6, .p 2 0), (7, .v (.int .u64 (modN n))), (24, .v (.int .i64 4)), (25, .v (.int .i64 2)), (26, .v (.bool true))]) tabOk h10 M9 rfl (by kernel_rfl) ⟨by kernel_rfl, by kernel_rfl, by kernel_rfl, by kernel_rfl, by kernel_rfl, by kernel_rfl, by kernel_rfl, by kernel_rfl, trivial⟩ (fun a11 h11 d11 => ?_)
  show Code.wp _ _ _ _ _
  replace d11 := d11.trans d10
  clear h10 d10
  refine wp_seq ?_
  refine wp_cond_true (h11.2 26 _ rfl) ?_
  refine wp_skip ?_
  show Code.wp _ _ _ _ _
  refine wp_seq ?_
  refine wp_block ?_
  refine wp_seq ?_
  refine regM_seq (N := 149) (T := TT) (n := 2) (E2 := [(0, .p 0 0), (1, .p 1 bo), (2, .v (.int .i64 (n : Int))), (6, .p 2 0), (7, .v (.int .u64 (modN n))), (8, .v (.int .i64 2)), (24, .v (.int .i64 4)), (25, .v (.int .i64 2))]) tabOk h11 M9 rfl (by kernel_rfl) ⟨by kernel_rfl, by kernel_rfl, by kernel_rfl, by kernel_rfl, by kernel_rfl, by kernel_rfl, by kernel_rfl, by kernel_rfl, trivial⟩ (fun a12 h12 d12 => ?_)
  show Code.wp _ _ _ _ _
  replace d12 := d12.trans d11
  clear h11 d11
  refine regM_store (N := 149) (T := TT) (n := 9) (k := 0) (i := 2) (u := .int .u64 (IntKind.u64.wrap ((s 2) + modN n))) (E2 := [(0, .p 0 0), (1, .p 1 bo), (2, .v (.int .i64 (n : Int))), (6, .p 2 0), (7, .v (.int .u64 (modN n))), (24, .v (.int .i64 4)), (25, .v (.int .i64 2))]) (by kernel_rfl) tabOk h12 M9 rfl (by kernel_rfl) (by kernel_rfl) rfl ⟨by kernel_rfl, by kernel_rfl, by kernel_rfl, by kernel_rfl, by kernel_rfl, by kernel_rfl, by kernel_rfl, trivial⟩ (fun _ _ _ _ hd h => And.intro (hd.trans (And.left h)) (And.right h)) (fun a13 W13 h13 d13 M13 G13 => ?_)
  show Code.wp _ _ _ _ _
  replace d13 := d13.trans d12
  replace M13 : Mw (bg [⟨g, T, 16, (stm s m)⟩, ⟨bb, Tb, nb, mb⟩, ⟨kb, 71, 32, (fun _ => .int .u8 0)⟩]) [⟨g, T, 16, (upm (upm (upm (stm s m) 0 (.int .u64 (IntKind.u64.wrap ((s 0) + modN n)))) 1 (.int .u64 (IntKind.u64.wrap ((s 1) + modN n)))) 2 (.int .u64 (IntKind.u64.wrap ((s 2) + modN n))))⟩, ⟨bb, Tb, nb, mb⟩, ⟨kb, 71, 32, (fun _ => .int .u8 0)⟩] W13 := M13
  have F13 := Fr.comp F9 G13 (fun x hx => Or.inl (by simp at hx; subst hx; simp))
  clear F9 G13
  clear h12 d12 M9
  refine regM_seq (N := 149) (T := TT) (n := 2) (E2 := [(0, .p 0 0), (1, .p 1 bo), (2, .v (.int .i64 (n : Int))), (6, .p 2 0), (7, .v (.int .u64 (modN n))), (24, .v (.int .i64 4)), (25, .v (.int .i64 3))]) tabOk h13 M13 rfl (by kernel_rfl) ⟨by kernel_rfl, by kernel_rfl, by kernel_rfl, by kernel_rfl, by kernel_rfl, by kernel_rfl, by kernel_rfl, trivial⟩ (fun a14 h14 d14 => ?_)
  replace d14 := d14.trans d13
  clear h13 d13
  show Code.rounds _ _ _ _ _ _
  rw [rounds_succ]
  refine wp_seq ?_
  refine regM_seq (N := 149) (T := TT) (n := 1) (E2 := [(0, .p 0 0), (1, .p 1 bo), (2, .v (.int .i64 (n : Int))), (6, .p 2 0), (7, .v (.int .u64 (modN n))), (24, .v (.int .i64 4)), (25, .v (.int .i64 3)), (26, .v (.bool true))]) tabOk h14 M13 rfl (by kernel_rfl) ⟨by kernel_rfl, by kernel_rfl, by kernel_rfl, by kernel_rfl, by kernel_rfl, by kernel_rfl, by kernel_rfl, by kernel_rfl, trivial⟩ (fun a15 h15 d15 => ?_)
  show Code.wp _ _ _ _ _
  replace d15 := d15.trans d14
  clear h14 d14
  refine wp_seq ?_
  refine wp_cond_true (h15.2 26 _ rfl) ?_
  refine wp_skip ?_
  show Code.wp _ _ _ _ _
  refine wp_seq ?_
  refine wp_block ?_
  refine wp_seq ?_
  refine regM_seq (N := 149) (T := TT) (n := 2) (E2 := [(0, .p 0 0), (1, .p 1 bo), (2, .v (.int .i64 (n : Int))), (6, .p 2 0), (7, .v (.int .u64 (modN n))), (8, .v (.int .i64 3)), (24, .v (.int .i64 4)), (25, .v (.int .i64 3))]) tabOk h15 M13 rfl (by kernel_rfl) ⟨by kernel_rfl, by kernel_rfl, by kernel_rfl, by kernel_rfl, by kernel_rfl, by kernel_rfl, by kernel_rfl, by kernel_rfl, trivial⟩ (fun a16 h16 d16 => ?_)
  show Code.wp _ _ _ _ _
  replace d16 := d16.trans d15
  clear h15 d15
  refine regM_store (N := 149) (T := TT) (n := 9) (k := 0) (i := 3) (u := .int .u64 (IntKind.u64.wrap ((s 3) + modN n))) (E2 := [(0, .p 0 0), (1, .p 1 bo), (2, .v (.int .i64 (n : Int))), (6, .p 2 0), (7, .v (.int .u64 (modN n))), (24, .v (.int .i64 4)), (25, .v (.int .i64 3))]) (by kernel_rfl) tabOk h16 M13 rfl (by kernel_rfl) (by kernel_rfl) rfl ⟨by kernel_rfl, by kernel_rfl, by kernel_rfl, by kernel_rfl, by kernel_rfl, by kernel_rfl, by kernel_rfl, trivial⟩ (fun _ _ _ _ hd h => And.intro (hd.trans (And.left h)) (And.right h)) (fun a17 W17 h17 d17 M17 G17 => ?_)
  show Code.wp _ _ _ _ _
  replace d17 := d17.trans d16
  replace M17 : Mw (bg [⟨g, T, 16, (stm s m)⟩, ⟨bb, Tb, nb, mb⟩, ⟨kb, 71, 32, (fun _ => .int .u8 0)⟩]) [⟨g, T, 16, (upm (upm (upm (upm (stm s m) 0 (.int .u64 (IntKind.u64.wrap ((s 0) + modN n)))) 1 (.int .u64 (IntKind.u64.wrap ((s 1) + modN n)))) 2 (.int .u64 (IntKind.u64.wrap ((s 2) + modN n)))) 3 (.int .u64 (IntKind.u64.wrap ((s 3) + modN n))))⟩, ⟨bb, Tb, nb, mb⟩, ⟨kb, 71, 32, (fun _ => .int .u8 0)⟩] W17 := M17
  have F17 := Fr.comp F13 G17 (fun x hx => Or.inl (by simp at hx; subst hx; simp))
  clear F13 G17
  clear h16 d16 M13
  refine regM_seq (N := 149) (T := TT) (n := 2) (E2 := [(0, .p 0 0), (1, .p 1 bo), (2, .v (.int .i64 (n : Int))), (6, .p 2 0), (7, .v (.int .u64 (modN n))), (24, .v (.int .i64 4)), (25, .v (.int .i64 4))]) tabOk h17 M17 rfl (by kernel_rfl) ⟨by kernel_rfl, by kernel_rfl, by kernel_rfl, by kernel_rfl, by kernel_rfl, by kernel_rfl, by kernel_rfl, trivial⟩ (fun a18 h18 d18 => ?_)
  replace d18 := d18.trans d17
  clear h17 d17
  show Code.rounds _ _ _ _ _ _
  rw [rounds_succ]
  refine wp_seq ?_
  refine regM_seq (N := 149) (T := TT) (n := 1) (E2 := [(0, .p 0 0), (1, .p 1 bo), (2, .v (.int .i64 (n : Int))), (6, .p 2 0), (7, .v (.int .u64 (modN n))), (24, .v (.int .i64 4)), (25, .v (.int .i64 4)), (26, .v (.bool false))]) tabOk h18 M17 rfl (by kernel_rfl) ⟨by kernel_rfl, by kernel_rfl, by kernel_rfl, by kernel_rfl, by kernel_rfl, by kernel_rfl, by kernel_rfl, by kernel_rfl, trivial⟩ (fun a19 h19 d19 => ?_)
  show Code.wp _ _ _ _ _
  replace d19 := d19.trans d18
  clear h18 d18
  refine wp_seq ?_
  refine wp_cond_false (h19.2 26 _ rfl) ?_
  refine wp_exit ?_
  refine then_exit (then_exit (exit_in ?_))
  show Code.wp _ _ _ _ _
  refine wp_seq ?_
  refine wp_seq ?_
  refine regM_seq (N := 149) (T := TT) (n := 5) (E2 := [(0, .p 0 0), (1, .p 1 bo), (2, .v (.int .i64 (n : Int))), (6, .p 2 0), (7, .v (.int .u64 (modN n))), (41, .v (.int .i64 4)), (42, .v (.int .i64 0))]) tabOk h19 M17 rfl (by kernel_rfl) ⟨by kernel_rfl, by kernel_rfl, by kernel_rfl, by kernel_rfl, by kernel_rfl, by kernel_rfl, by kernel_rfl, trivial⟩ (fun a20 h20 d20 => ?_)
  show Code.wp _ _ _ _ _
  replace d20 := d20.trans d19
  clear h19 d19
  refine wp_block ?_
  refine wp_loop_rounds 5 ?_
  rw [rounds_succ]
  refine wp_seq ?_
  refine regM_seq (N := 149) (T := TT) (n := 1) (E2 := [(0, .p 0 0), (1, .p 1 bo), (2, .v (.int .i64 (n : Int))), (6, .p 2 0), (7, .v (.int .u64 (modN n))), (41, .v (.int .i64 4)), (42, .v (.int .i64 0)), (43, .v (.bool true))]) tabOk h20 M17 rfl (by kernel_rfl) ⟨by kernel_rfl, by kernel_rfl, by kernel_rfl, by kernel_rfl, by kernel_rfl, by kernel_rfl, by kernel_rfl, by kernel_rfl, trivial⟩ (fun a21 h21 d21 => ?_)
  show Code.wp _ _ _ _ _
  replace d21 := d21.trans d20
  clear h20 d20
  refine wp_seq ?_
  refine wp_cond_true (h21.2 43 _ rfl) ?_
  refine wp_skip ?_
  show Code.wp _ _ _ _ _
  refine wp_seq ?_
  refine wp_block ?_
  refine wp_seq ?_
  refine regM_seq (N := 149) (T := TT) (n := 2) (E2 := [(0, .p 0 0), (1, .p 1 bo), (2, .v (.int .i64 (n : Int))), (6, .p 2 0), (7, .v (.int .u64 (modN n))), (9, .v (.int .i64 0)), (41, .v (.int .i64 4)), (42, .v (.int .i64 0))]) tabOk h21 M17 rfl (by kernel_rfl) ⟨by kernel_rfl, by kernel_rfl, by kernel_rfl, by kernel_rfl, by kernel_rfl, by kernel_rfl, by kernel_rfl, by kernel_rfl, trivial⟩ (fun a22 h22 d22 => ?_)
  show Code.wp _ _ _ _ _
  replace d22 := d22.trans d21
  clear h21 d21
  refine wp_seq ?_
  refine regM_seq (N := 149) (T := TT) (n := 8) (E2 := [(0, .p 0 0), (1, .p 1 bo), (2, .v (.int .i64 (n : Int))), (6, .p 2 0), (7, .v (.int .u64 (modN n))), (9, .v (.int .i64 0)), (10, .v (.int .u32 (IntKind.u32.wrap (s 4)))), (41, .v (.int .i64 4)), (42, .v (.int .i64 0))]) tabOk h22 M17 rfl (by kernel_rfl) ⟨by kernel_rfl, by kernel_rfl, by kernel_rfl, by kernel_rfl, by kernel_rfl, by kernel_rfl, by kernel_rfl, by kernel_rfl, by kernel_rfl, trivial⟩ (fun a23 h23 d23 => ?_)
  show Code.wp _ _ _ _ _
  replace d23 := d23.trans d22
  clear h22 d22
  refine wp_seq ?_
  refine wp_region ?_
  refine ops_ (N := 149) (M := bm [⟨g, T, 16, (upm (upm (upm (upm (stm s m) 0 (.int .u64 (IntKind.u64.wrap ((s 0) + modN n)))) 1 (.int .u64 (IntKind.u64.wrap ((s 1) + modN n)))) 2 (.int .u64 (IntKind.u64.wrap ((s 2) + modN n)))) 3 (.int .u64 (IntKind.u64.wrap ((s 3) + modN n))))⟩, ⟨bb, Tb, nb, mb⟩, ⟨kb, 71, 32, (fun _ => .int .u8 0)⟩]) (T := TT) (E' := [(54, .v (.int .u64 (IntKind.u64.wrap (n : Int)))), (53, .v (.int .i64 (n : Int))), (52, .v (.int .u32 (IntKind.u32.wrap (s 4)))), (0, .p 0 0), (1, .p 1 bo), (2, .v (.int .i64 (n : Int))), (6, .p 2 0), (7, .v (.int .u64 (modN n))), (9, .v (.int .i64 0)), (10, .v (.int .u32 (IntKind.u32.wrap (s 4)))), (41, .v (.int .i64 4)), (42, .v (.int .i64 0))]) tabOk M17.mem [3, 4, 5, 6, 7, 8, 9, 10] [0, 1, 2] (by kernel_rfl) h23 (fun b1 g1 e1 => ?_)
  rw [hn1] at g1
  refine ops_ (N := 149) (M := bm [⟨g, T, 16, (upm (upm (upm (upm (stm s m) 0 (.int .u64 (IntKind.u64.wrap ((s 0) + modN n)))) 1 (.int .u64 (IntKind.u64.wrap ((s 1) + modN n)))) 2 (.int .u64 (IntKind.u64.wrap ((s 2) + modN n)))) 3 (.int .u64 (IntKind.u64.wrap ((s 3) + modN n))))⟩, ⟨bb, Tb, nb, mb⟩, ⟨kb, 71, 32, (fun _ => .int .u8 0)⟩]) (T := TT) (E' := [(59, .v (.int .u64 (IntKind.u64.wrap (IntKind.i64.wrap (32 - (n : Int)))))), (58, .v (.int .i64 (IntKind.i64.wrap (32 - (n : Int))))), (57, .v (.int .i64 (n : Int))), (56, .v (.int .u32 (IntKind.u32.wrap (s 4)))), (55, .v (.int .u32 (IntKind.u32.wrap ((IntKind.u32.wrap (s 4)) * ((2 ^ (min n 32) : Nat) : Int))))), (54, .v (.int .u64 (n : Int))), (53, .v (.int .i64 (n : Int))), (52, .v (.int .u32 (IntKind.u32.wrap (s 4)))), (0, .p 0 0), (1, .p 1 bo), (2, .v (.int .i64 (n : Int))), (6, .p 2 0), (7, .v (.int .u64 (modN n))), (9, .v (.int .i64 0)), (10, .v (.int .u32 (IntKind.u32.wrap (s 4)))), (41, .v (.int .i64 4)), (42, .v (.int .i64 0))]) tabOk M17.mem [8, 9, 10] [3, 4, 5, 6, 7] (by kernel_rfl) g1 (fun b2 g2 e2 => ?_)
  rw [hn2] at g2
  refine ops_ (N := 149) (M := bm [⟨g, T, 16, (upm (upm (upm (upm (stm s m) 0 (.int .u64 (IntKind.u64.wrap ((s 0) + modN n)))) 1 (.int .u64 (IntKind.u64.wrap ((s 1) + modN n)))) 2 (.int .u64 (IntKind.u64.wrap ((s 2) + modN n)))) 3 (.int .u64 (IntKind.u64.wrap ((s 3) + modN n))))⟩, ⟨bb, Tb, nb, mb⟩, ⟨kb, 71, 32, (fun _ => .int .u8 0)⟩]) (T := TT) (E' := [(10, .v (.int .u32 (trn n (IntKind.u32.wrap (s 4))))), (61, .v (.int .u32 (trn n (IntKind.u32.wrap (s 4))))), (60, .v (.int .u32 ((IntKind.u32.wrap (s 4)) / ((2 ^ (min (32 - n) 32) : Nat) : Int)))), (59, .v (.int .u64 ((32 - n : Nat) : Int))), (58, .v (.int .i64 (IntKind.i64.wrap (32 - (n : Int))))), (57, .v (.int .i64 (n : Int))), (56, .v (.int .u32 (IntKind.u32.wrap (s 4)))), (55, .v (.int .u32 (IntKind.u32.wrap ((IntKind.u32.wrap (s 4)) * ((2 ^ (min n 32) : Nat) : Int))))), (54, .v (.int .u64 (n : Int))), (53, .v (.int .i64 (n : Int))), (52, .v (.int .u32 (IntKind.u32.wrap (s 4)))), (0, .p 0 0), (1, .p 1 bo), (2, .v (.int .i64 (n : Int))), (6, .p 2 0), (7, .v (.int .u64 (modN n))), (9, .v (.int .i64 0)), (10, .v (.int .u32 (IntKind.u32.wrap (s 4)))), (41, .v (.int .i64 4)), (42, .v (.int .i64 0))]) tabOk M17.mem [] [8, 9, 10] (by kernel_rfl) g2 (fun b3 g3 e3 => ?_)
  have h24 := sub_ok (E := [(0, .p 0 0), (1, .p 1 bo), (2, .v (.int .i64 (n : Int))), (6, .p 2 0), (7, .v (.int .u64 (modN n))), (9, .v (.int .i64 0)), (10, .v (.int .u32 (trn n (IntKind.u32.wrap (s 4))))), (41, .v (.int .i64 4)), (42, .v (.int .i64 0))]) g3 ⟨by kernel_rfl, by kernel_rfl, by kernel_rfl, by kernel_rfl, by kernel_rfl, by kernel_rfl, by kernel_rfl, by kernel_rfl, by kernel_rfl, trivial⟩
  have d24 := e3.trans (e2.trans (e1.trans d23))
  clear g1 g2 g3 e1 e2 e3 h23 d23
  show Code.wp _ _ _ _ _
  refine wp_seq ?_
  refine regM_seq (N := 149) (T := TT) (n := 9) (E2 := [(0, .p 0 0), (1, .p 1 bo), (2, .v (.int .i64 (n : Int))), (6, .p 2 0), (7, .v (.int .u64 (modN n))), (9, .v (.int .i64 0)), (10, .v (.int .u32 (trn n (IntKind.u32.wrap (s 4))))), (11, .v (.int .u32 (IntKind.u32.wrap ((s 4) / 4294967296)))), (41, .v (.int .i64 4)), (42, .v (.int .i64 0))]) tabOk h24 M17 rfl (by kernel_rfl) ⟨by kernel_rfl, by kernel_rfl, by kernel_rfl, by kernel_rfl, by kernel_rfl, by kernel_rfl, by kernel_rfl, by kernel_rfl, by kernel_rfl, by kernel_rfl, trivial⟩ (fun a25 h25 d25 => ?_)
  show Code.wp _ _ _ _ _
  replace d25 := d25.trans d24
  clear h24 d24
  refine wp_seq ?_
  refine wp_region ?_
  refine ops_ (N := 149) (M := bm [⟨g, T, 16, (upm (upm (upm (upm (stm s m) 0 (.int .u64 (IntKind.u64.wrap ((s 0) + modN n)))) 1 (.int .u64 (IntKind.u64.wrap ((s 1) + modN n)))) 2 (.int .u64 (IntKind.u64.wrap ((s 2) + modN n)))) 3 (.int .u64 (IntKind.u64.wrap ((s 3) + modN n))))⟩, ⟨bb, Tb, nb, mb⟩, ⟨kb, 71, 32, (fun _ => .int .u8 0)⟩]) (T := TT) (E' := [(72, .v (.int .u64 (IntKind.u64.wrap (n : Int)))), (71, .v (.int .i64 (n : Int))), (70, .v (.int .u32 (IntKind.u32.wrap ((s 4) / 4294967296)))), (0, .p 0 0), (1, .p 1 bo), (2, .v (.int .i64 (n : Int))), (6, .p 2 0), (7, .v (.int .u64 (modN n))), (9, .v (.int .i64 0)), (10, .v (.int .u32 (trn n (IntKind.u32.wrap (s 4))))), (11, .v (.int .u32 (IntKind.u32.wrap ((s 4) / 4294967296)))), (41, .v (.int .i64 4)), (42, .v (.int .i64 0))]) tabOk M17.mem [3, 4, 5, 6, 7, 8, 9, 10] [0, 1, 2] (by kernel_rfl) h25 (fun b1 g1 e1 => ?_)
  rw [hn1] at g1
  refine ops_ (N := 149) (M := bm [⟨g, T, 16, (upm (upm (upm (upm (stm s m) 0 (.int .u64 (IntKind.u64.wrap ((s 0) + modN n)))) 1 (.int .u64 (IntKind.u64.wrap ((s 1) + modN n)))) 2 (.int .u64 (IntKind.u64.wrap ((s 2) + modN n)))) 3 (.int .u64 (IntKind.u64.wrap ((s 3) + modN n))))⟩, ⟨bb, Tb, nb, mb⟩, ⟨kb, 71, 32, (fun _ => .int .u8 0)⟩]) (T := TT) (E' := [(77, .v (.int .u64 (IntKind.u64.wrap (IntKind.i64.wrap (32 - (n : Int)))))), (76, .v (.int .i64 (IntKind.i64.wrap (32 - (n : Int))))), (75, .v (.int .i64 (n : Int))), (74, .v (.int .u32 (IntKind.u32.wrap ((s 4) / 4294967296)))), (73, .v (.int .u32 (IntKind.u32.wrap ((IntKind.u32.wrap ((s 4) / 4294967296)) * ((2 ^ (min n 32) : Nat) : Int))))), (72, .v (.int .u64 (n : Int))), (71, .v (.int .i64 (n : Int))), (70, .v (.int .u32 (IntKind.u32.wrap ((s 4) / 4294967296)))), (0, .p 0 0), (1, .p 1 bo), (2, .v (.int .i64 (n : Int))), (6, .p 2 0), (7, .v (.int .u64 (modN n))), (9, .v (.int .i64 0)), (10, .v (.int .u32 (trn n (IntKind.u32.wrap (s 4))))), (11, .v (.int .u32 (IntKind.u32.wrap ((s 4) / 4294967296)))), (41, .v (.int .i64 4)), (42, .v (.int .i64 0))]) tabOk M17.mem [8, 9, 10] [3, 4, 5, 6, 7] (by kernel_rfl) g1 (fun b2 g2 e2 => ?_)
  rw [hn2] at g2
  refine ops_ (N := 149) (M := bm [⟨g, T, 16, (upm (upm (upm (upm (stm s m) 0 (.int .u64 (IntKind.u64.wrap ((s 0) + modN n)))) 1 (.int .u64 (IntKind.u64.wrap ((s 1) + modN n)))) 2 (.int .u64 (IntKind.u64.wrap ((s 2) + modN n)))) 3 (.int .u64 (IntKind.u64.wrap ((s 3) + modN n))))⟩, ⟨bb, Tb, nb, mb⟩, ⟨kb, 71, 32, (fun _ => .int .u8 0)⟩]) (T := TT) (E' := [(11, .v (.int .u32 (trn n (IntKind.u32.wrap ((s 4) / 4294967296))))), (79, .v (.int .u32 (trn n (IntKind.u32.wrap ((s 4) / 4294967296))))), (78, .v (.int .u32 ((IntKind.u32.wrap ((s 4) / 4294967296)) / ((2 ^ (min (32 - n) 32) : Nat) : Int)))), (77, .v (.int .u64 ((32 - n : Nat) : Int))), (76, .v (.int .i64 (IntKind.i64.wrap (32 - (n : Int))))), (75, .v (.int .i64 (n : Int))), (74, .v (.int .u32 (IntKind.u32.wrap ((s 4) / 4294967296)))), (73, .v (.int .u32 (IntKind.u32.wrap ((IntKind.u32.wrap ((s 4) / 4294967296)) * ((2 ^ (min n 32) : Nat) : Int))))), (72, .v (.int .u64 (n : Int))), (71, .v (.int .i64 (n : Int))), (70, .v (.int .u32 (IntKind.u32.wrap ((s 4) / 4294967296)))), (0, .p 0 0), (1, .p 1 bo), (2, .v (.int .i64 (n : Int))), (6, .p 2 0), (7, .v (.int .u64 (modN n))), (9, .v (.int .i64 0)), (10, .v (.int .u32 (trn n (IntKind.u32.wrap (s 4))))), (11, .v (.int .u32 (IntKind.u32.wrap ((s 4) / 4294967296)))), (41, .v (.int .i64 4)), (42, .v (.int .i64 0))]) tabOk M17.mem [] [8, 9, 10] (by kernel_rfl) g2 (fun b3 g3 e3 => ?_)
  have h26 := sub_ok (E := [(0, .p 0 0), (1, .p 1 bo), (2, .v (.int .i64 (n : Int))), (6, .p 2 0), (7, .v (.int .u64 (modN n))), (9, .v (.int .i64 0)), (10, .v (.int .u32 (trn n (IntKind.u32.wrap (s 4))))), (11, .v (.int .u32 (trn n (IntKind.u32.wrap ((s 4) / 4294967296))))), (41, .v (.int .i64 4)), (42, .v (.int .i64 0))]) g3 ⟨by kernel_rfl, by kernel_rfl, by kernel_rfl, by kernel_rfl, by kernel_rfl, by kernel_rfl, by kernel_rfl, by kernel_rfl, by kernel_rfl, by kernel_rfl, trivial⟩
  have d26 := e3.trans (e2.trans (e1.trans d25))
  clear g1 g2 g3 e1 e2 e3 h25 d25
  show Code.wp _ _ _ _ _
  refine regM_seq_store (N := 149) (T := TT) (n := 11) (k := 0) (i := 4) (u := .int .u64 (trn2 n (s 4))) (E2 := [(0, .p 0 0), (1, .p 1 bo), (2, .v (.int .i64 (n : Int))), (6, .p 2 0), (7, .v (.int .u64 (modN n))), (41, .v (.int .i64 4)), (42, .v (.int .i64 0))]) tabOk h26 M17 rfl (by kernel_rfl) rfl ⟨by kernel_rfl, by kernel_rfl, by kernel_rfl, by kernel_rfl, by kernel_rfl, by kernel_rfl, by kernel_rfl, trivial⟩ (fun a27 W27 h27 d27 M27 G27 => ?_)
  show Code.wp _ _ _ _ _
  replace d27 := d27.trans d26
  replace M27 : Mw (bg [⟨g, T, 16, (stm s m)⟩, ⟨bb, Tb, nb, mb⟩, ⟨kb, 71, 32, (fun _ => .int .u8 0)⟩]) [⟨g, T, 16, (upm (upm (upm (upm (upm (stm s m) 0 (.int .u64 (IntKind.u64.wrap ((s 0) + modN n)))) 1 (.int .u64 (IntKind.u64.wrap ((s 1) + modN n)))) 2 (.int .u64 (IntKind.u64.wrap ((s 2) + modN n)))) 3 (.int .u64 (IntKind.u64.wrap ((s 3) + modN n)))) 4 (.int .u64 (trn2 n (s 4))))⟩, ⟨bb, Tb, nb, mb⟩, ⟨kb, 71, 32, (fun _ => .int .u8 0)⟩] W27 := M27
  have F27 := Fr.comp F17 G27 (fun x hx => Or.inl (by simp at hx; subst hx; simp))
  clear F17 G27
  clear h26 d26 M17
  refine regM_seq (N := 149) (T := TT) (n := 2) (E2 := [(0, .p 0 0), (1, .p 1 bo), (2, .v (.int .i64 (n : Int))), (6, .p 2 0), (7, .v (.int .u64 (modN n))), (41, .v (.int .i64 4)), (42, .v (.int .i64 1))]) tabOk h27 M27 rfl (by kernel_rfl) ⟨by kernel_rfl, by kernel_rfl, by kernel_rfl, by kernel_rfl, by kernel_rfl, by kernel_rfl, by kernel_rfl, trivial⟩ (fun a28 h28 d28 => ?_)
  replace d28 := d28.trans d27
  clear h27 d27
  show Code.rounds _ _ _ _ _ _
  rw [rounds_succ]
  refine wp_seq ?_
  refine regM_seq (N := 149) (T := TT) (n := 1) (E2 := [(0, .p 0 0), (1, .p 1 bo), (2, .v (.int .i64 (n : Int))), (6, .p 2 0), (7, .v (.int .u64 (modN n))), (41, .v (.int .i64 4)), (42, .v (.int .i64 1)), (43, .v (.bool true))]) tabOk h28 M27 rfl (by kernel_rfl) ⟨by kernel_rfl, by kernel_rfl, by kernel_rfl, by kernel_rfl, by kernel_rfl, by kernel_rfl, by kernel_rfl, by kernel_rfl, trivial⟩ (fun a29 h29 d29 => ?_)
  show Code.wp _ _ _ _ _
  replace d29 := d29.trans d28
  clear h28 d28
  refine wp_seq ?_
  refine wp_cond_true (h29.2 43 _ rfl) ?_
  refine wp_skip ?_
  show Code.wp _ _ _ _ _
  refine wp_seq ?_
  refine wp_block ?_
  refine wp_seq ?_
  refine regM_seq (N := 149) (T := TT) (n := 2) (E2 := [(0, .p 0 0), (1, .p 1 bo), (2, .v (.int .i64 (n : Int))), (6, .p 2 0), (7, .v (.int .u64 (modN n))), (9, .v (.int .i64 1)), (41, .v (.int .i64 4)), (42, .v (.int .i64 1))]) tabOk h29 M27 rfl (by kernel_rfl) ⟨by kernel_rfl, by kernel_rfl, by kernel_rfl, by kernel_rfl, by kernel_rfl, by kernel_rfl, by kernel_rfl, by kernel_rfl, trivial⟩ (fun a30 h30 d30 => ?_)
  show Code.wp _ _ _ _ _
  replace d30 := d30.trans d29
  clear h29 d29
  refine wp_seq ?_
  refine regM_seq (N := 149) (T := TT) (n := 8) (E2 := [(0, .p 0 0), (1, .p 1 bo), (2, .v (.int .i64 (n : Int))), (6, .p 2 0), (7, .v (.int .u64 (modN n))), (9, .v (.int .i64 1)), (10, .v (.int .u32 (IntKind.u32.wrap (s 5)))), (41, .v (.int .i64 4)), (42, .v (.int .i64 1))]) tabOk h30 M27 rfl (by kernel_rfl) ⟨by kernel_rfl, by kernel_rfl, by kernel_rfl, by kernel_rfl, by kernel_rfl, by kernel_rfl, by kernel_rfl, by kernel_rfl, by kernel_rfl, trivial⟩ (fun a31 h31 d31 => ?_)
  show Code.wp _ _ _ _ _
  replace d31 := d31.trans d30
  clear h30 d30
  refine wp_seq ?_
  refine wp_region ?_
  refine ops_ (N := 149) (M := bm [⟨g, T, 16, (upm (upm (upm (upm (upm (stm s m) 0 (.int .u64 (IntKind.u64.wrap ((s 0) + modN n)))) 1 (.int .u64 (IntKind.u64.wrap ((s 1) + modN n)))) 2 (.int .u64 (IntKind.u64.wrap ((s 2) + modN n)))) 3 (.int .u64 (IntKind.u64.wrap ((s 3) + modN n)))) 4 (.int .u64 (trn2 n (s 4))))⟩, ⟨bb, Tb, nb, mb⟩, ⟨kb, 71, 32, (fun _ => .int .u8 0)⟩]) (T := TT) (E' := [(54, .v (.int .u64 (IntKind.u64.wrap (n : Int)))), (53, .v (.int .i64 (n : Int))), (52, .v (.int .u32 (IntKind.u32.wrap (s 5)))), (0, .p 0 0), (1, .p 1 bo), (2, .v (.int .i64 (n : Int))), (6, .p 2 0), (7, .v (.int .u64 (modN n))), (9, .v (.int .i64 1)), (10, .v (.int .u32 (IntKind.u32.wrap (s 5)))), (41, .v (.int .i64 4)), (42, .v (.int .i64 1))]) tabOk M27.mem [3, 4, 5, 6, 7, 8, 9, 10] [0, 1, 2] (by kernel_rfl) h31 (fun b1 g1 e1 => ?_)
  rw [hn1] at g1
  refine ops_ (N := 149) (M := bm [⟨g, T, 16, (upm (upm (upm (upm (upm (stm s m) 0 (.int .u64 (IntKind.u64.wrap ((s 0) + modN n)))) 1 (.int .u64 (IntKind.u64.wrap ((s 1) + modN n)))) 2 (.int .u64 (IntKind.u64.wrap ((s 2) + modN n)))) 3 (.int .u64 (IntKind.u64.wrap ((s 3) + modN n)))) 4 (.int .u64 (trn2 n (s 4))))⟩, ⟨bb, Tb, nb, mb⟩, ⟨kb, 71, 32, (fun _ => .int .u8 0)⟩]) (T := TT) (E' := [(59, .v (.int .u64 (IntKind.u64.wrap (IntKind.i64.wrap (32 - (n : Int)))))), (58, .v (.int .i64 (IntKind.i64.wrap (32 - (n : Int))))), (57, .v (.int .i64 (n : Int))), (56, .v (.int .u32 (IntKind.u32.wrap (s 5)))), (55, .v (.int .u32 (IntKind.u32.wrap ((IntKind.u32.wrap (s 5)) * ((2 ^ (min n 32) : Nat) : Int))))), (54, .v (.int .u64 (n : Int))), (53, .v (.int .i64 (n : Int))), (52, .v (.int .u32 (IntKind.u32.wrap (s 5)))), (0, .p 0 0), (1, .p 1 bo), (2, .v (.int .i64 (n : Int))), (6, .p 2 0), (7, .v (.int .u64 (modN n))), (9, .v (.int .i64 1)), (10, .v (.int .u32 (IntKind.u32.wrap (s 5)))), (41, .v (.int .i64 4)), (42, .v (.int .i64 1))]) tabOk M27.mem [8, 9, 10] [3, 4, 5, 6, 7] (by kernel_rfl) g1 (fun b2 g2 e2 => ?_)
  rw [hn2] at g2
  refine ops_ (N := 149) (M := bm [⟨g, T, 16, (upm (upm (upm (upm (upm (stm s m) 0 (.int .u64 (IntKind.u64.wrap ((s 0) + modN n)))) 1 (.int .u64 (IntKind.u64.wrap ((s 1) + modN n)))) 2 (.int .u64 (IntKind.u64.wrap ((s 2) + modN n)))) 3 (.int .u64 (IntKind.u64.wrap ((s 3) + modN n)))) 4 (.int .u64 (trn2 n (s 4))))⟩, ⟨bb, Tb, nb, mb⟩, ⟨kb, 71, 32, (fun _ => .int .u8 0)⟩]) (T := TT) (E' := [(10, .v (.int .u32 (trn n (IntKind.u32.wrap (s 5))))), (61, .v (.int .u32 (trn n (IntKind.u32.wrap (s 5))))), (60, .v (.int .u32 ((IntKind.u32.wrap (s 5)) / ((2 ^ (min (32 - n) 32) : Nat) : Int)))), (59, .v (.int .u64 ((32 - n : Nat) : Int))), (58, .v (.int .i64 (IntKind.i64.wrap (32 - (n : Int))))), (57, .v (.int .i64 (n : Int))), (56, .v (.int .u32 (IntKind.u32.wrap (s 5)))), (55, .v (.int .u32 (IntKind.u32.wrap ((IntKind.u32.wrap (s 5)) * ((2 ^ (min n 32) : Nat) : Int))))), (54, .v (.int .u64 (n : Int))), (53, .v (.int .i64 (n : Int))), (52, .v (.int .u32 (IntKind.u32.wrap (s 5)))), (0, .p 0 0), (1, .p 1 bo), (2, .v (.int .i64 (n : Int))), (6, .p 2 0), (7, .v (.int .u64 (modN n))), (9, .v (.int .i64 1)), (10, .v (.int .u32 (IntKind.u32.wrap (s 5)))), (41, .v (.int .i64 4)), (42, .v (.int .i64 1))]) tabOk M27.mem [] [8, 9, 10] (by kernel_rfl) g2 (fun b3 g3 e3 => ?_)
  have h32 := sub_ok (E := [(0, .p 0 0), (1, .p 1 bo), (2, .v (.int .i64 (n : Int))), (6, .p 2 0), (7, .v (.int .u64 (modN n))), (9, .v (.int .i64 1)), (10, .v (.int .u32 (trn n (IntKind.u32.wrap (s 5))))), (41, .v (.int .i64 4)), (42, .v (.int .i64 1))]) g3 ⟨by kernel_rfl, by kernel_rfl, by kernel_rfl, by kernel_rfl, by kernel_rfl, by kernel_rfl, by kernel_rfl, by kernel_rfl, by kernel_rfl, trivial⟩
  have d32 := e3.trans (e2.trans (e1.trans d31))
  clear g1 g2 g3 e1 e2 e3 h31 d31
  show Code.wp _ _ _ _ _
  refine wp_seq ?_
  refine regM_seq (N := 149) (T := TT) (n := 9) (E2 := [(0, .p 0 0), (1, .p 1 bo), (2, .v (.int .i64 (n : Int))), (6, .p 2 0), (7, .v (.int .u64 (modN n))), (9, .v (.int .i64 1)), (10, .v (.int .u32 (trn n (IntKind.u32.wrap (s 5))))), (11, .v (.int .u32 (IntKind.u32.wrap ((s 5) / 4294967296)))), (41, .v (.int .i64 4)), (42, .v (.int .i64 1))]) tabOk h32 M27 rfl (by kernel_rfl) ⟨by kernel_rfl, by kernel_rfl, by kernel_rfl, by kernel_rfl, by kernel_rfl, by kernel_rfl, by kernel_rfl, by kernel_rfl, by kernel_rfl, by kernel_rfl, trivial⟩ (fun a33 h33 d33 => ?_)
  show Code.wp _ _ _ _ _
  replace d33 := d33.trans d32
  clear h32 d32
  refine wp_seq ?_
  refine wp_region ?_
  refine ops_ (N := 149) (M := bm [⟨g, T, 16, (upm (upm (upm (upm (upm (stm s m) 0 (.int .u64 (IntKind.u64.wrap ((s 0) + modN n)))) 1 (.int .u64 (IntKind.u64.wrap ((s 1) + modN n)))) 2 (.int .u64 (IntKind.u64.wrap ((s 2) + modN n)))) 3 (.int .u64 (IntKind.u64.wrap ((s 3) + modN n)))) 4 (.int .u64 (trn2 n (s 4))))⟩, ⟨bb, Tb, nb, mb⟩, ⟨kb, 71, 32, (fun _ => .int .u8 0)⟩]) (T := TT) (E' := [(72, .v (.int .u64 (IntKind.u64.wrap (n : Int)))), (71, .v (.int .i64 (n : Int))), (70, .v (.int .u32 (IntKind.u32.wrap ((s 5) / 4294967296)))), (0, .p 0 0), (1, .p 1 bo), (2, .v (.int .i64 (n : Int))), (6, .p 2 0), (7, .v (.int .u64 (modN n))), (9, .v (.int .i64 1)), (10, .v (.int .u32 (trn n (IntKind.u32.wrap (s 5))))), (11, .v (.int .u32 (IntKind.u32.wrap ((s 5) / 4294967296)))), (41, .v (.int .i64 4)), (42, .v (.int .i64 1))]) tabOk M27.mem [3, 4, 5, 6, 7, 8, 9, 10] [0, 1, 2] (by kernel_rfl) h33 (fun b1 g1 e1 => ?_)
  rw [hn1] at g1
  refine ops_ (N := 149) (M := bm [⟨g, T, 16, (upm (upm (upm (upm (upm (stm s m) 0 (.int .u64 (IntKind.u64.wrap ((s 0) + modN n)))) 1 (.int .u64 (IntKind.u64.wrap ((s 1) + modN n)))) 2 (.int .u64 (IntKind.u64.wrap ((s 2) + modN n)))) 3 (.int .u64 (IntKind.u64.wrap ((s 3) + modN n)))) 4 (.int .u64 (trn2 n (s 4))))⟩, ⟨bb, Tb, nb, mb⟩, ⟨kb, 71, 32, (fun _ => .int .u8 0)⟩]) (T := TT) (E' := [(77, .v (.int .u64 (IntKind.u64.wrap (IntKind.i64.wrap (32 - (n : Int)))))), (76, .v (.int .i64 (IntKind.i64.wrap (32 - (n : Int))))), (75, .v (.int .i64 (n : Int))), (74, .v (.int .u32 (IntKind.u32.wrap ((s 5) / 4294967296)))), (73, .v (.int .u32 (IntKind.u32.wrap ((IntKind.u32.wrap ((s 5) / 4294967296)) * ((2 ^ (min n 32) : Nat) : Int))))), (72, .v (.int .u64 (n : Int))), (71, .v (.int .i64 (n : Int))), (70, .v (.int .u32 (IntKind.u32.wrap ((s 5) / 4294967296)))), (0, .p 0 0), (1, .p 1 bo), (2, .v (.int .i64 (n : Int))), (6, .p 2 0), (7, .v (.int .u64 (modN n))), (9, .v (.int .i64 1)), (10, .v (.int .u32 (trn n (IntKind.u32.wrap (s 5))))), (11, .v (.int .u32 (IntKind.u32.wrap ((s 5) / 4294967296)))), (41, .v (.int .i64 4)), (42, .v (.int .i64 1))]) tabOk M27.mem [8, 9, 10] [3, 4, 5, 6, 7] (by kernel_rfl) g1 (fun b2 g2 e2 => ?_)
  rw [hn2] at g2
  refine ops_ (N := 149) (M := bm [⟨g, T, 16, (upm (upm (upm (upm (upm (stm s m) 0 (.int .u64 (IntKind.u64.wrap ((s 0) + modN n)))) 1 (.int .u64 (IntKind.u64.wrap ((s 1) + modN n)))) 2 (.int .u64 (IntKind.u64.wrap ((s 2) + modN n)))) 3 (.int .u64 (IntKind.u64.wrap ((s 3) + modN n)))) 4 (.int .u64 (trn2 n (s 4))))⟩, ⟨bb, Tb, nb, mb⟩, ⟨kb, 71, 32, (fun _ => .int .u8 0)⟩]) (T := TT) (E' := [(11, .v (.int .u32 (trn n (IntKind.u32.wrap ((s 5) / 4294967296))))), (79, .v (.int .u32 (trn n (IntKind.u32.wrap ((s 5) / 4294967296))))), (78, .v (.int .u32 ((IntKind.u32.wrap ((s 5) / 4294967296)) / ((2 ^ (min (32 - n) 32) : Nat) : Int)))), (77, .v (.int .u64 ((32 - n : Nat) : Int))), (76, .v (.int .i64 (IntKind.i64.wrap (32 - (n : Int))))), (75, .v (.int .i64 (n : Int))), (74, .v (.int .u32 (IntKind.u32.wrap ((s 5) / 4294967296)))), (73, .v (.int .u32 (IntKind.u32.wrap ((IntKind.u32.wrap ((s 5) / 4294967296)) * ((2 ^ (min n 32) : Nat) : Int))))), (72, .v (.int .u64 (n : Int))), (71, .v (.int .i64 (n : Int))), (70, .v (.int .u32 (IntKind.u32.wrap ((s 5) / 4294967296)))), (0, .p 0 0), (1, .p 1 bo), (2, .v (.int .i64 (n : Int))), (6, .p 2 0), (7, .v (.int .u64 (modN n))), (9, .v (.int .i64 1)), (10, .v (.int .u32 (trn n (IntKind.u32.wrap (s 5))))), (11, .v (.int .u32 (IntKind.u32.wrap ((s 5) / 4294967296)))), (41, .v (.int .i64 4)), (42, .v (.int .i64 1))]) tabOk M27.mem [] [8, 9, 10] (by kernel_rfl) g2 (fun b3 g3 e3 => ?_)
  have h34 := sub_ok (E := [(0, .p 0 0), (1, .p 1 bo), (2, .v (.int .i64 (n : Int))), (6, .p 2 0), (7, .v (.int .u64 (modN n))), (9, .v (.int .i64 1)), (10, .v (.int .u32 (trn n (IntKind.u32.wrap (s 5))))), (11, .v (.int .u32 (trn n (IntKind.u32.wrap ((s 5) / 4294967296))))), (41, .v (.int .i64 4)), (42, .v (.int .i64 1))]) g3 ⟨by kernel_rfl, by kernel_rfl, by kernel_rfl, by kernel_rfl, by kernel_rfl, by kernel_rfl, by kernel_rfl, by kernel_rfl, by kernel_rfl, by kernel_rfl, trivial⟩
  have d34 := e3.trans (e2.trans (e1.trans d33))
  clear g1 g2 g3 e1 e2 e3 h33 d33
  show Code.wp _ _ _ _ _
  refine regM_seq_store (N := 149) (T := TT) (n := 11) (k := 0) (i := 5) (u := .int .u64 (trn2 n (s 5))) (E2 := [(0, .p 0 0), (1, .p 1 bo), (2, .v (.int .i64 (n : Int))), (6, .p 2 0), (7, .v (.int .u64 (modN n))), (41, .v (.int .i64 4)), (42, .v (.int .i64 1))]) tabOk h34 M27 rfl (by kernel_rfl) rfl ⟨by kernel_rfl, by kernel_rfl, by kernel_rfl, by kernel_rfl, by kernel_rfl, by kernel_rfl, by kernel_rfl, trivial⟩ (fun a35 W35 h35 d35 M35 G35 => ?_)
  show Code.wp _ _ _ _ _
  replace d35 := d35.trans d34
  replace M35 : Mw (bg [⟨g, T, 16, (stm s m)⟩, ⟨bb, Tb, nb, mb⟩, ⟨kb, 71, 32, (fun _ => .int .u8 0)⟩]) [⟨g, T, 16, (upm (upm (upm (upm (upm (upm (stm s m) 0 (.int .u64 (IntKind.u64.wrap ((s 0) + modN n)))) 1 (.int .u64 (IntKind.u64.wrap ((s 1) + modN n)))) 2 (.int .u64 (IntKind.u64.wrap ((s 2) + modN n)))) 3 (.int .u64 (IntKind.u64.wrap ((s 3) + modN n)))) 4 (.int .u64 (trn2 n (s 4)))) 5 (.int .u64 (trn2 n (s 5))))⟩, ⟨bb, Tb, nb, mb⟩, ⟨kb, 71, 32, (fun _ => .int .u8 0)⟩] W35 := M35
  have F35 := Fr.comp F27 G35 (fun x hx => Or.inl (by simp at hx; subst hx; simp))
  clear F27 G35
  clear h34 d34 M27
  refine regM_seq (N := 149) (T := TT) (n := 2) (E2 := [(0, .p 0 0), (1, .p 1 bo), (2, .v (.int .i64 (n : Int))), (6, .p 2 0), (7, .v (.int .u64 (modN n))), (41, .v (.int .i64 4)), (42, .v (.int .i64 2))]) tabOk h35 M35 rfl (by kernel_rfl) ⟨by kernel_rfl, by kernel_rfl, by kernel_rfl, by kernel_rfl, by kernel_rfl, by kernel_rfl, by kernel_rfl, trivial⟩ (fun a36 h36 d36 => ?_)
  replace d36 := d36.trans d35
  clear h35 d35
  show Code.rounds _ _ _ _ _ _
  rw [rounds_succ]
  refine wp_seq ?_
  refine regM_seq (N := 149) (T := TT) (n := 1) (E2 := [(0, .p 0 0), (1, .p 1 bo), (2, .v (.int .i64 (n : Int))), (6, .p 2 0), (7, .v (.int .u64 (modN n))), (41, .v (.int .i64 4)), (42, .v (.int .i64 2)), (43, .v (.bool true))]) tabOk h36 M35 rfl (by kernel_rfl) ⟨by kernel_rfl, by kernel_rfl, by kernel_rfl, by kernel_rfl, by kernel_rfl, by kernel_rfl, by kernel_rfl, by kernel_rfl, trivial⟩ (fun a37 h37 d37 => ?_)
  show Code.wp _ _ _ _ _
  replace d37 := d37.trans d36
  clear h36 d36
  refine wp_seq ?_
  refine wp_cond_true (h37.2 43 _ rfl) ?_
  refine wp_skip ?_
  show Code.wp _ _ _ _ _
  refine wp_seq ?_
  refine wp_block ?_
  refine wp_seq ?_
  refine regM_seq (N := 149) (T := TT) (n := 2) (E2 := [(0, .p 0 0), (1, .p 1 bo), (2, .v (.int .i64 (n : Int))), (6, .p 2 0), (7, .v (.int .u64 (modN n))), (9, .v (.int .i64 2)), (41, .v (.int .i64 4)), (42, .v (.int .i64 2))]) tabOk h37 M35 rfl (by kernel_rfl) ⟨by kernel_rfl, by kernel_rfl, by kernel_rfl, by kernel_rfl, by kernel_rfl, by kernel_rfl, by kernel_rfl, by kernel_rfl, trivial⟩ (fun a38 h38 d38 => ?_)
  show Code.wp _ _ _ _ _
  replace d38 := d38.trans d37
  clear h37 d37
  refine wp_seq ?_
  refine regM_seq (N := 149) (T := TT) (n := 8) (E2 := [(0, .p 0 0), (1, .p 1 bo), (2, .v (.int .i64 (n : Int))), (6, .p 2 0), (7, .v (.int .u64 (modN n))), (9, .v (.int .i64 2)), (10, .v (.int .u32 (IntKind.u32.wrap (s 6)))), (41, .v (.int .i64 4)), (42, .v (.int .i64 2))]) tabOk h38 M35 rfl (by kernel_rfl) ⟨by kernel_rfl, by kernel_rfl, by kernel_rfl, by kernel_rfl, by kernel_rfl, by kernel_rfl, by kernel_rfl, by kernel_rfl, by kernel_rfl, trivial⟩ (fun a39 h39 d39 => ?_)
  show Code.wp _ _ _ _ _
  replace d39 := d39.trans d38
  clear h38 d38
  refine wp_seq ?_
  refine wp_region ?_
  refine ops_ (N := 149) (M := bm [⟨g, T, 16, (upm (upm (upm (upm (upm (upm (stm s m) 0 (.int .u64 (IntKind.u64.wrap ((s 0) + modN n)))) 1 (.int .u64 (IntKind.u64.wrap ((s 1) + modN n)))) 2 (.int .u64 (IntKind.u64.wrap ((s 2) + modN n)))) 3 (.int .u64 (IntKind.u64.wrap ((s 3) + modN n)))) 4 (.int .u64 (trn2 n (s 4)))) 5 (.int .u64 (trn2 n (s 5))))⟩, ⟨bb, Tb, nb, mb⟩, ⟨kb, 71, 32, (fun _ => .int .u8 0)⟩]) (T := TT) (E' := [(54, .v (.int .u64 (IntKind.u64.wrap (n : Int)))), (53, .v (.int .i64 (n : Int))), (52, .v (.int .u32 (IntKind.u32.wrap (s 6)))), (0, .p 0 0), (1, .p 1 bo), (2, .v (.int .i64 (n : Int))), (6, .p 2 0), (7, .v (.int .u64 (modN n))), (9, .v (.int .i64 2)), (10, .v (.int .u32 (IntKind.u32.wrap (s 6)))), (41, .v (.int .i64 4)), (42, .v (.int .i64 2))]) tabOk M35.mem [3, 4, 5, 6, 7, 8, 9, 10] [0, 1, 2] (by kernel_rfl) h39 (fun b1 g1 e1 => ?_)
  rw [hn1] at g1
  refine ops_ (N := 149) (M := bm [⟨g, T, 16, (upm (upm (upm (upm (upm (upm (stm s m) 0 (.int .u64 (IntKind.u64.wrap ((s 0) + modN n)))) 1 (.int .u64 (IntKind.u64.wrap ((s 1) + modN n)))) 2 (.int .u64 (IntKind.u64.wrap ((s 2) + modN n)))) 3 (.int .u64 (IntKind.u64.wrap ((s 3) + modN n)))) 4 (.int .u64 (trn2 n (s 4)))) 5 (.int .u64 (trn2 n (s 5))))⟩, ⟨bb, Tb, nb, mb⟩, ⟨kb, 71, 32, (fun _ => .int .u8 0)⟩]) (T := TT) (E' := [(59, .v (.int .u64 (IntKind.u64.wrap (IntKind.i64.wrap (32 - (n : Int)))))), (58, .v (.int .i64 (IntKind.i64.wrap (32 - (n : Int))))), (57, .v (.int .i64 (n : Int))), (56, .v (.int .u32 (IntKind.u32.wrap (s 6)))), (55, .v (.int .u32 (IntKind.u32.wrap ((IntKind.u32.wrap (s 6)) * ((2 ^ (min n 32) : Nat) : Int))))), (54, .v (.int .u64 (n : Int))), (53, .v (.int .i64 (n : Int))), (52, .v (.int .u32 (IntKind.u32.wrap (s 6)))), (0, .p 0 0), (1, .p 1 bo), (2, .v (.int .i64 (n : Int))), (6, .p 2 0), (7, .v (.int .u64 (modN n))), (9, .v (.int .i64 2)), (10, .v (.int .u32 (IntKind.u32.wrap (s 6)))), (41, .v (.int .i64 4)), (42, .v (.int .i64 2))]) tabOk M35.mem [8, 9, 10] [3, 4, 5, 6, 7] (by kernel_rfl) g1 (fun b2 g2 e2 => ?_)
  rw [hn2] at g2
  refine ops_ (N := 149) (M := bm [⟨g, T, 16, (upm (upm (upm (upm (upm (upm (stm s m) 0 (.int .u64 (IntKind.u64.wrap ((s 0) + modN n)))) 1 (.int .u64 (IntKind.u64.wrap ((s 1) + modN n)))) 2 (.int .u64 (IntKind.u64.wrap ((s 2) + modN n)))) 3 (.int .u64 (IntKind.u64.wrap ((s 3) + modN n)))) 4 (.int .u64 (trn2 n (s 4)))) 5 (.int .u64 (trn2 n (s 5))))⟩, ⟨bb, Tb, nb, mb⟩, ⟨kb, 71, 32, (fun _ => .int .u8 0)⟩]) (T := TT) (E' := [(10, .v (.int .u32 (trn n (IntKind.u32.wrap (s 6))))), (61, .v (.int .u32 (trn n (IntKind.u32.wrap (s 6))))), (60, .v (.int .u32 ((IntKind.u32.wrap (s 6)) / ((2 ^ (min (32 - n) 32) : Nat) : Int)))), (59, .v (.int .u64 ((32 - n : Nat) : Int))), (58, .v (.int .i64 (IntKind.i64.wrap (32 - (n : Int))))), (57, .v (.int .i64 (n : Int))), (56, .v (.int .u32 (IntKind.u32.wrap (s 6)))), (55, .v (.int .u32 (IntKind.u32.wrap ((IntKind.u32.wrap (s 6)) * ((2 ^ (min n 32) : Nat) : Int))))), (54, .v (.int .u64 (n : Int))), (53, .v (.int .i64 (n : Int))), (52, .v (.int .u32 (IntKind.u32.wrap (s 6)))), (0, .p 0 0), (1, .p 1 bo), (2, .v (.int .i64 (n : Int))), (6, .p 2 0), (7, .v (.int .u64 (modN n))), (9, .v (.int .i64 2)), (10, .v (.int .u32 (IntKind.u32.wrap (s 6)))), (41, .v (.int .i64 4)), (42, .v (.int .i64 2))]) tabOk M35.mem [] [8, 9, 10] (by kernel_rfl) g2 (fun b3 g3 e3 => ?_)
  have h40 := sub_ok (E := [(0, .p 0 0), (1, .p 1 bo), (2, .v (.int .i64 (n : Int))), (6, .p 2 0), (7, .v (.int .u64 (modN n))), (9, .v (.int .i64 2)), (10, .v (.int .u32 (trn n (IntKind.u32.wrap (s 6))))), (41, .v (.int .i64 4)), (42, .v (.int .i64 2))]) g3 ⟨by kernel_rfl, by kernel_rfl, by kernel_rfl, by kernel_rfl, by kernel_rfl, by kernel_rfl, by kernel_rfl, by kernel_rfl, by kernel_rfl, trivial⟩
  have d40 := e3.trans (e2.trans (e1.trans d39))
  clear g1 g2 g3 e1 e2 e3 h39 d39
  show Code.wp _ _ _ _ _
  refine wp_seq ?_
  refine regM_seq (N := 149) (T := TT) (n := 9) (E2 := [(0, .p 0 0), (1, .p 1 bo), (2, .v (.int .i64 (n : Int))), (6, .p 2 0), (7, .v (.int .u64 (modN n))), (9, .v (.int .i64 2)), (10, .v (.int .u32 (trn n (IntKind.u32.wrap (s 6))))), (11, .v (.int .u32 (IntKind.u32.wrap ((s 6) / 4294967296)))), (41, .v (.int .i64 4)), (42, .v (.int .i64 2))]) tabOk h40 M35 rfl (by kernel_rfl) ⟨by kernel_rfl, by kernel_rfl, by kernel_rfl, by kernel_rfl, by kernel_rfl, by kernel_rfl, by kernel_rfl, by kernel_rfl, by kernel_rfl, by kernel_rfl, trivial⟩ (fun a41 h41 d41 => ?_)
  show Code.wp _ _ _ _ _
  replace d41 := d41.trans d40
  clear h40 d40
  refine wp_seq ?_
  refine wp_region ?_
  refine ops_ (N := 149) (M := bm [⟨g, T, 16, (upm (upm (upm (upm (upm (upm (stm s m) 0 (.int .u64 (IntKind.u64.wrap ((s 0) + modN n)))) 1 (.int .u64 (IntKind.u64.wrap ((s 1) + modN n)))) 2 (.int .u64 (IntKind.u64.wrap ((s 2) + modN n)))) 3 (.int .u64 (IntKind.u64.wrap ((s 3) + modN n)))) 4 (.int .u64 (trn2 n (s 4)))) 5 (.int .u64 (trn2 n (s 5))))⟩, ⟨bb, Tb, nb, mb⟩, ⟨kb, 71, 32, (fun _ => .int .u8 0)⟩]) (T := TT) (E' := [(72, .v (.int .u64 (IntKind.u64.wrap (n : Int)))), (71, .v (.int .i64 (n : Int))), (70, .v (.int .u32 (IntKind.u32.wrap ((s 6) / 4294967296)))), (0, .p 0 0), (1, .p 1 bo), (2, .v (.int .i64 (n : Int))), (6, .p 2 0), (7, .v (.int .u64 (modN n))), (9, .v (.int .i64 2)), (10, .v (.int .u32 (trn n (IntKind.u32.wrap (s 6))))), (11, .v (.int .u32 (IntKind.u32.wrap ((s 6) / 4294967296)))), (41, .v (.int .i64 4)), (42, .v (.int .i64 2))]) tabOk M35.mem [3, 4, 5, 6, 7, 8, 9, 10] [0, 1, 2] (by kernel_rfl) h41 (fun b1 g1 e1 => ?_)
  rw [hn1] at g1
  refine ops_ (N := 149) (M := bm [⟨g, T, 16, (upm (upm (upm (upm (upm (upm (stm s m) 0 (.int .u64 (IntKind.u64.wrap ((s 0) + modN n)))) 1 (.int .u64 (IntKind.u64.wrap ((s 1) + modN n)))) 2 (.int .u64 (IntKind.u64.wrap ((s 2) + modN n)))) 3 (.int .u64 (IntKind.u64.wrap ((s 3) + modN n)))) 4 (.int .u64 (trn2 n (s 4)))) 5 (.int .u64 (trn2 n (s 5))))⟩, ⟨bb, Tb, nb, mb⟩, ⟨kb, 71, 32, (fun _ => .int .u8 0)⟩]) (T := TT) (E' := [(77, .v (.int .u64 (IntKind.u64.wrap (IntKind.i64.wrap (32 - (n : Int)))))), (76, .v (.int .i64 (IntKind.i64.wrap (32 - (n : Int))))), (75, .v (.int .i64 (n : Int))), (74, .v (.int .u32 (IntKind.u32.wrap ((s 6) / 4294967296)))), (73, .v (.int .u32 (IntKind.u32.wrap ((IntKind.u32.wrap ((s 6) / 4294967296)) * ((2 ^ (min n 32) : Nat) : Int))))), (72, .v (.int .u64 (n : Int))), (71, .v (.int .i64 (n : Int))), (70, .v (.int .u32 (IntKind.u32.wrap ((s 6) / 4294967296)))), (0, .p 0 0), (1, .p 1 bo), (2, .v (.int .i64 (n : Int))), (6, .p 2 0), (7, .v (.int .u64 (modN n))), (9, .v (.int .i64 2)), (10, .v (.int .u32 (trn n (IntKind.u32.wrap (s 6))))), (11, .v (.int .u32 (IntKind.u32.wrap ((s 6) / 4294967296)))), (41, .v (.int .i64 4)), (42, .v (.int .i64 2))]) tabOk M35.mem [8, 9, 10] [3, 4, 5, 6, 7] (by kernel_rfl) g1 (fun b2 g2 e2 => ?_)
  rw [hn2] at g2
  refine ops_ (N := 149) (M := bm [⟨g, T, 16, (upm (upm (upm (upm (upm (upm (stm s m) 0 (.int .u64 (IntKind.u64.wrap ((s 0) + modN n)))) 1 (.int .u64 (IntKind.u64.wrap ((s 1) + modN n)))) 2 (.int .u64 (IntKind.u64.wrap ((s 2) + modN n)))) 3 (.int .u64 (IntKind.u64.wrap ((s 3) + modN n)))) 4 (.int .u64 (trn2 n (s 4)))) 5 (.int .u64 (trn2 n (s 5))))⟩, ⟨bb, Tb, nb, mb⟩, ⟨kb, 71, 32, (fun _ => .int .u8 0)⟩]) (T := TT) (E' := [(11, .v (.int .u32 (trn n (IntKind.u32.wrap ((s 6) / 4294967296))))), (79, .v (.int .u32 (trn n (IntKind.u32.wrap ((s 6) / 4294967296))))), (78, .v (.int .u32 ((IntKind.u32.wrap ((s 6) / 4294967296)) / ((2 ^ (min (32 - n) 32) : Nat) : Int)))), (77, .v (.int .u64 ((32 - n : Nat) : Int))), (76, .v (.int .i64 (IntKind.i64.wrap (32 - (n : Int))))), (75, .v (.int .i64 (n : Int))), (74, .v (.int .u32 (IntKind.u32.wrap ((s 6) / 4294967296)))), (73, .v (.int .u32 (IntKind.u32.wrap ((IntKind.u32.wrap ((s 6) / 4294967296)) * ((2 ^ (min n 32) : Nat) : Int))))), (72, .v (.int .u64 (n : Int))), (71, .v (.int .i64 (n : Int))), (70, .v (.int .u32 (IntKind.u32.wrap ((s 6) / 4294967296)))), (0, .p 0 0), (1, .p 1 bo), (2, .v (.int .i64 (n : Int))), (6, .p 2 0), (7, .v (.int .u64 (modN n))), (9, .v (.int .i64 2)), (10, .v (.int .u32 (trn n (IntKind.u32.wrap (s 6))))), (11, .v (.int .u32 (IntKind.u32.wrap ((s 6) / 4294967296)))), (41, .v (.int .i64 4)), (42, .v (.int .i64 2))]) tabOk M35.mem [] [8, 9, 10] (by kernel_rfl) g2 (fun b3 g3 e3 => ?_)
  have h42 := sub_ok (E := [(0, .p 0 0), (1, .p 1 bo), (2, .v (.int .i64 (n : Int))), (6, .p 2 0), (7, .v (.int .u64 (modN n))), (9, .v (.int .i64 2)), (10, .v (.int .u32 (trn n (IntKind.u32.wrap (s 6))))), (11, .v (.int .u32 (trn n (IntKind.u32.wrap ((s 6) / 4294967296))))), (41, .v (.int .i64 4)), (42, .v (.int .i64 2))]) g3 ⟨by kernel_rfl, by kernel_rfl, by kernel_rfl, by kernel_rfl, by kernel_rfl, by kernel_rfl, by kernel_rfl, by kernel_rfl, by kernel_rfl, by kernel_rfl, trivial⟩
  have d42 := e3.trans (e2.trans (e1.trans d41))
  clear g1 g2 g3 e1 e2 e3 h41 d41
  show Code.wp _ _ _ _ _
  refine regM_seq_store (N := 149) (T := TT) (n := 11) (k := 0) (i := 6) (u := .int .u64 (trn2 n (s 6))) (E2 := [(0, .p 0 0), (1, .p 1 bo), (2, .v (.int .i64 (n : Int))), (6, .p 2 0), (7, .v (.int .u64 (modN n))), (41, .v (.int .i64 4)), (42, .v (.int .i64 2))]) tabOk h42 M35 rfl (by kernel_rfl) rfl ⟨by kernel_rfl, by kernel_rfl, by kernel_rfl, by kernel_rfl, by kernel_rfl, by kernel_rfl, by kernel_rfl, trivial⟩ (fun a43 W43 h43 d43 M43 G43 => ?_)
  show Code.wp _ _ _ _ _
  replace d43 := d43.trans d42
  replace M43 : Mw (bg [⟨g, T, 16, (stm s m)⟩, ⟨bb, Tb, nb, mb⟩, ⟨kb, 71, 32, (fun _ => .int .u8 0)⟩]) [⟨g, T, 16, (upm (upm (upm (upm (upm (upm (upm (stm s m) 0 (.int .u64 (IntKind.u64.wrap ((s 0) + modN n)))) 1 (.int .u64 (IntKind.u64.wrap ((s 1) + modN n)))) 2 (.int .u64 (IntKind.u64.wrap ((s 2) + modN n)))) 3 (.int .u64 (IntKind.u64.wrap ((s 3) + modN n)))) 4 (.int .u64 (trn2 n (s 4)))) 5 (.int .u64 (trn2 n (s 5)))) 6 (.int .u64 (trn2 n (s 6))))⟩, ⟨bb, Tb, nb, mb⟩, ⟨kb, 71, 32, (fun _ => .int .u8 0)⟩] W43 := M43
  have F43 := Fr.comp F35 G43 (fun x hx => Or.inl (by simp at hx; subst hx; simp))
  clear F35 G43
  clear h42 d42 M35
  refine regM_seq (N := 149) (T := TT) (n := 2) (E2 := [(0, .p 0 0), (1, .p 1 bo), (2, .v (.int .i64 (n : Int))), (6, .p 2 0), (7, .v (.int .u64 (modN n))), (41, .v (.int .i64 4)), (42, .v (.int .i64 3))]) tabOk h43 M43 rfl (by kernel_rfl) ⟨by kernel_rfl, by kernel_rfl, by kernel_rfl, by kernel_rfl, by kernel_rfl, by kernel_rfl, by kernel_rfl, trivial⟩ (fun a44 h44 d44 => ?_)
  replace d44 := d44.trans d43
  clear h43 d43
  show Code.rounds _ _ _ _ _ _
  rw [rounds_succ]
  refine wp_seq ?_
  refine regM_seq (N := 149) (T := TT) (n := 1) (E2 := [(0, .p 0 0), (1, .p 1 bo), (2, .v (.int .i64 (n : Int))), (6, .p 2 0), (7, .v (.int .u64 (modN n))), (41, .v (.int .i64 4)), (42, .v (.int .i64 3)), (43, .v (.bool true))]) tabOk h44 M43 rfl (by kernel_rfl) ⟨by kernel_rfl, by kernel_rfl, by kernel_rfl, by kernel_rfl, by kernel_rfl, by kernel_rfl, by kernel_rfl, by kernel_rfl, trivial⟩ (fun a45 h45 d45 => ?_)
  show Code.wp _ _ _ _ _
  replace d45 := d45.trans d44
  clear h44 d44
  refine wp_seq ?_
  refine wp_cond_true (h45.2 43 _ rfl) ?_
  refine wp_skip ?_
  show Code.wp _ _ _ _ _
  refine wp_seq ?_
  refine wp_block ?_
  refine wp_seq ?_
  refine regM_seq (N := 149) (T := TT) (n := 2) (E2 := [(0, .p 0 0), (1, .p 1 bo), (2, .v (.int .i64 (n : Int))), (6, .p 2 0), (7, .v (.int .u64 (modN n))), (9, .v (.int .i64 3)), (41, .v (.int .i64 4)), (42, .v (.int .i64 3))]) tabOk h45 M43 rfl (by kernel_rfl) ⟨by kernel_rfl, by kernel_rfl, by kernel_rfl, by kernel_rfl, by kernel_rfl, by kernel_rfl, by kernel_rfl, by kernel_rfl, trivial⟩ (fun a46 h46 d46 => ?_)
  show Code.wp _ _ _ _ _
  replace d46 := d46.trans d45
  clear h45 d45
  refine wp_seq ?_
  refine regM_seq (N := 149) (T := TT) (n := 8) (E2 := [(0, .p 0 0), (1, .p 1 bo), (2, .v (.int .i64 (n : Int))), (6, .p 2 0), (7, .v (.int .u64 (modN n))), (9, .v (.int .i64 3)), (10, .v (.int .u32 (IntKind.u32.wrap (s 7)))), (41, .v (.int .i64 4)), (42, .v (.int .i64 3))]) tabOk h46 M43 rfl (by kernel_rfl) ⟨by kernel_rfl, by kernel_rfl, by kernel_rfl, by kernel_rfl, by kernel_rfl, by kernel_rfl, by kernel_rfl, by kernel_rfl, by kernel_rfl, trivial⟩ (fun a47 h47 d47 => ?_)
  show Code.wp _ _ _ _ _
  replace d47 := d47.trans d46
  clear h46 d46
  refine wp_seq ?_
  refine wp_region ?_
  refine ops_ (N := 149) (M := bm [⟨g, T, 16, (upm (upm (upm (upm (upm (upm (upm (stm s m) 0 (.int .u64 (IntKind.u64.wrap ((s 0) + modN n)))) 1 (.int .u64 (IntKind.u64.wrap ((s 1) + modN n)))) 2 (.int .u64 (IntKind.u64.wrap ((s 2) + modN n)))) 3 (.int .u64 (IntKind.u64.wrap ((s 3) + modN n)))) 4 (.int .u64 (trn2 n (s 4)))) 5 (.int .u64 (trn2 n (s 5)))) 6 (.int .u64 (trn2 n (s 6))))⟩, ⟨bb, Tb, nb, mb⟩, ⟨kb, 71, 32, (fun _ => .int .u8 0)⟩]) (T := TT) (E' := [(54, .v (.int .u64 (IntKind.u64.wrap (n : Int)))), (53, .v (.int .i64 (n : Int))), (52, .v (.int .u32 (IntKind.u32.wrap (s 7)))), (0, .p 0 0), (1, .p 1 bo), (2, .v (.int .i64 (n : Int))), (6, .p 2 0), (7, .v (.int .u64 (modN n))), (9, .v (.int .i64 3)), (10, .v (.int .u32 (IntKind.u32.wrap (s 7)))), (41, .v (.int .i64 4)), (42, .v (.int .i64 3))]) tabOk M43.mem [3, 4, 5, 6, 7, 8, 9, 10] [0, 1, 2] (by kernel_rfl) h47 (fun b1 g1 e1 => ?_)
  rw [hn1] at g1
  refine ops_ (N := 149) (M := bm [⟨g, T, 16, (upm (upm (upm (upm (upm (upm (upm (stm s m) 0 (.int .u64 (IntKind.u64.wrap ((s 0) + modN n)))) 1 (.int .u64 (IntKind.u64.wrap ((s 1) + modN n)))) 2 (.int .u64 (IntKind.u64.wrap ((s 2) + modN n)))) 3 (.int .u64 (IntKind.u64.wrap ((s 3) + modN n)))) 4 (.int .u64 (trn2 n (s 4)))) 5 (.int .u64 (trn2 n (s 5)))) 6 (.int .u64 (trn2 n (s 6))))⟩, ⟨bb, Tb, nb, mb⟩, ⟨kb, 71, 32, (fun _ => .int .u8 0)⟩]) (T := TT) (E' := [(59, .v (.int .u64 (IntKind.u64.wrap (IntKind.i64.wrap (32 - (n : Int)))))), (58, .v (.int .i64 (IntKind.i64.wrap (32 - (n : Int))))), (57, .v (.int .i64 (n : Int))), (56, .v (.int .u32 (IntKind.u32.wrap (s 7)))), (55, .v (.int .u32 (IntKind.u32.wrap ((IntKind.u32.wrap (s 7)) * ((2 ^ (min n 32) : Nat) : Int))))), (54, .v (.int .u64 (n : Int))), (53, .v (.int .i64 (n : Int))), (52, .v (.int .u32 (IntKind.u32.wrap (s 7)))), (0, .p 0 0), (1, .p 1 bo), (2, .v (.int .i64 (n : Int))), (6, .p 2 0), (7, .v (.int .u64 (modN n))), (9, .v (.int .i64 3)), (10, .v (.int .u32 (IntKind.u32.wrap (s 7)))), (41, .v (.int .i64 4)), (42, .v (.int .i64 3))]) tabOk M43.mem [8, 9, 10] [3, 4, 5, 6, 7] (by kernel_rfl) g1 (fun b2 g2 e2 => ?_)
  rw [hn2] at g2
  refine ops_ (N := 149) (M := bm [⟨g, T, 16, (upm (upm (upm (upm (upm (upm (upm (stm s m) 0 (.int .u64 (IntKind.u64.wrap ((s 0) + modN n)))) 1 (.int .u64 (IntKind.u64.wrap ((s 1) + modN n)))) 2 (.int .u64 (IntKind.u64.wrap ((s 2) + modN n)))) 3 (.int .u64 (IntKind.u64.wrap ((s 3) + modN n)))) 4 (.int .u64 (trn2 n (s 4)))) 5 (.int .u64 (trn2 n (s 5)))) 6 (.int .u64 (trn2 n (s 6))))⟩, ⟨bb, Tb, nb, mb⟩, ⟨kb, 71, 32, (fun _ => .int .u8 0)⟩]) (T := TT) (E' := [(10, .v (.int .u32 (trn n (IntKind.u32.wrap (s 7))))), (61, .v (.int .u32 (trn n (IntKind.u32.wrap (s 7))))), (60, .v (.int .u32 ((IntKind.u32.wrap (s 7)) / ((2 ^ (min (32 - n) 32) : Nat) : Int)))), (59, .v (.int .u64 ((32 - n : Nat) : Int))), (58, .v (.int .i64 (IntKind.i64.wrap (32 - (n : Int))))), (57, .v (.int .i64 (n : Int))), (56, .v (.int .u32 (IntKind.u32.wrap (s 7)))), (55, .v (.int .u32 (IntKind.u32.wrap ((IntKind.u32.wrap (s 7)) * ((2 ^ (min n 32) : Nat) : Int))))), (54, .v (.int .u64 (n : Int))), (53, .v (.int .i64 (n : Int))), (52, .v (.int .u32 (IntKind.u32.wrap (s 7)))), (0, .p 0 0), (1, .p 1 bo), (2, .v (.int .i64 (n : Int))), (6, .p 2 0), (7, .v (.int .u64 (modN n))), (9, .v (.int .i64 3)), (10, .v (.int .u32 (IntKind.u32.wrap (s 7)))), (41, .v (.int .i64 4)), (42, .v (.int .i64 3))]) tabOk M43.mem [] [8, 9, 10] (by kernel_rfl) g2 (fun b3 g3 e3 => ?_)
  have h48 := sub_ok (E := [(0, .p 0 0), (1, .p 1 bo), (2, .v (.int .i64 (n : Int))), (6, .p 2 0), (7, .v (.int .u64 (modN n))), (9, .v (.int .i64 3)), (10, .v (.int .u32 (trn n (IntKind.u32.wrap (s 7))))), (41, .v (.int .i64 4)), (42, .v (.int .i64 3))]) g3 ⟨by kernel_rfl, by kernel_rfl, by kernel_rfl, by kernel_rfl, by kernel_rfl, by kernel_rfl, by kernel_rfl, by kernel_rfl, by kernel_rfl, trivial⟩
  have d48 := e3.trans (e2.trans (e1.trans d47))
  clear g1 g2 g3 e1 e2 e3 h47 d47
  show Code.wp _ _ _ _ _
  refine wp_seq ?_
  refine regM_seq (N := 149) (T := TT) (n := 9) (E2 := [(0, .p 0 0), (1, .p 1 bo), (2, .v (.int .i64 (n : Int))), (6, .p 2 0), (7, .v (.int .u64 (modN n))), (9, .v (.int .i64 3)), (10, .v (.int .u32 (trn n (IntKind.u32.wrap (s 7))))), (11, .v (.int .u32 (IntKind.u32.wrap ((s 7) / 4294967296)))), (41, .v (.int .i64 4)), (42, .v (.int .i64 3))]) tabOk h48 M43 rfl (by kernel_rfl) ⟨by kernel_rfl, by kernel_rfl, by kernel_rfl, by kernel_rfl, by kernel_rfl, by kernel_rfl, by kernel_rfl, by kernel_rfl, by kernel_rfl, by kernel_rfl, trivial⟩ (fun a49 h49 d49 => ?_)
  show Code.wp _ _ _ _ _
  replace d49 := d49.trans d48
  clear h48 d48
  refine wp_seq ?_
  refine wp_region ?_
  refine ops_ (N := 149) (M := bm [⟨g, T, 16, (upm (upm (upm (upm (upm (upm (upm (stm s m) 0 (.int .u64 (IntKind.u64.wrap ((s 0) + modN n)))) 1 (.int .u64 (IntKind.u64.wrap ((s 1) + modN n)))) 2 (.int .u64 (IntKind.u64.wrap ((s 2) + modN n)))) 3 (.int .u64 (IntKind.u64.wrap ((s 3) + modN n)))) 4 (.int .u64 (trn2 n (s 4)))) 5 (.int .u64 (trn2 n (s 5)))) 6 (.int .u64 (trn2 n (s 6))))⟩, ⟨bb, Tb, nb, mb⟩, ⟨kb, 71, 32, (fun _ => .int .u8 0)⟩]) (T := TT) (E' := [(72, .v (.int .u64 (IntKind.u64.wrap (n : Int)))), (71, .v (.int .i64 (n : Int))), (70, .v (.int .u32 (IntKind.u32.wrap ((s 7) / 4294967296)))), (0, .p 0 0), (1, .p 1 bo), (2, .v (.int .i64 (n : Int))), (6, .p 2 0), (7, .v (.int .u64 (modN n))), (9, .v (.int .i64 3)), (10, .v (.int .u32 (trn n (IntKind.u32.wrap (s 7))))), (11, .v (.int .u32 (IntKind.u32.wrap ((s 7) / 4294967296)))), (41, .v (.int .i64 4)), (42, .v (.int .i64 3))]) tabOk M43.mem [3, 4, 5, 6, 7, 8, 9, 10] [0, 1, 2] (by kernel_rfl) h49 (fun b1 g1 e1 => ?_)
  rw [hn1] at g1
  refine ops_ (N := 149) (M := bm [⟨g, T, 16, (upm (upm (upm (upm (upm (upm (upm (stm s m) 0 (.int .u64 (IntKind.u64.wrap ((s 0) + modN n)))) 1 (.int .u64 (IntKind.u64.wrap ((s 1) + modN n)))) 2 (.int .u64 (IntKind.u64.wrap ((s 2) + modN n)))) 3 (.int .u64 (IntKind.u64.wrap ((s 3) + modN n)))) 4 (.int .u64 (trn2 n (s 4)))) 5 (.int .u64 (trn2 n (s 5)))) 6 (.int .u64 (trn2 n (s 6))))⟩, ⟨bb, Tb, nb, mb⟩, ⟨kb, 71, 32, (fun _ => .int .u8 0)⟩]) (T := TT) (E' := [(77, .v (.int .u64 (IntKind.u64.wrap (IntKind.i64.wrap (32 - (n : Int)))))), (76, .v (.int .i64 (IntKind.i64.wrap (32 - (n : Int))))), (75, .v (.int .i64 (n : Int))), (74, .v (.int .u32 (IntKind.u32.wrap ((s 7) / 4294967296)))), (73, .v (.int .u32 (IntKind.u32.wrap ((IntKind.u32.wrap ((s 7) / 4294967296)) * ((2 ^ (min n 32) : Nat) : Int))))), (72, .v (.int .u64 (n : Int))), (71, .v (.int .i64 (n : Int))), (70, .v (.int .u32 (IntKind.u32.wrap ((s 7) / 4294967296)))), (0, .p 0 0), (1, .p 1 bo), (2, .v (.int .i64 (n : Int))), (6, .p 2 0), (7, .v (.int .u64 (modN n))), (9, .v (.int .i64 3)), (10, .v (.int .u32 (trn n (IntKind.u32.wrap (s 7))))), (11, .v (.int .u32 (IntKind.u32.wrap ((s 7) / 4294967296)))), (41, .v (.int .i64 4)), (42, .v (.int .i64 3))]) tabOk M43.mem [8, 9, 10] [3, 4, 5, 6, 7] (by kernel_rfl) g1 (fun b2 g2 e2 => ?_)
  rw [hn2] at g2
  refine ops_ (N := 149) (M := bm [⟨g, T, 16, (upm (upm (upm (upm (upm (upm (upm (stm s m) 0 (.int .u64 (IntKind.u64.wrap ((s 0) + modN n)))) 1 (.int .u64 (IntKind.u64.wrap ((s 1) + modN n)))) 2 (.int .u64 (IntKind.u64.wrap ((s 2) + modN n)))) 3 (.int .u64 (IntKind.u64.wrap ((s 3) + modN n)))) 4 (.int .u64 (trn2 n (s 4)))) 5 (.int .u64 (trn2 n (s 5)))) 6 (.int .u64 (trn2 n (s 6))))⟩, ⟨bb, Tb, nb, mb⟩, ⟨kb, 71, 32, (fun _ => .int .u8 0)⟩]) (T := TT) (E' := [(11, .v (.int .u32 (trn n (IntKind.u32.wrap ((s 7) / 4294967296))))), (79, .v (.int .u32 (trn n (IntKind.u32.wrap ((s 7) / 4294967296))))), (78, .v (.int .u32 ((IntKind.u32.wrap ((s 7) / 4294967296)) / ((2 ^ (min (32 - n) 32) : Nat) : Int)))), (77, .v (.int .u64 ((32 - n : Nat) : Int))), (76, .v (.int .i64 (IntKind.i64.wrap (32 - (n : Int))))), (75, .v (.int .i64 (n : Int))), (74, .v (.int .u32 (IntKind.u32.wrap ((s 7) / 4294967296)))), (73, .v (.int .u32 (IntKind.u32.wrap ((IntKind.u32.wrap ((s 7) / 4294967296)) * ((2 ^ (min n 32) : Nat) : Int))))), (72, .v (.int .u64 (n : Int))), (71, .v (.int .i64 (n : Int))), (70, .v (.int .u32 (IntKind.u32.wrap ((s 7) / 4294967296)))), (0, .p 0 0), (1, .p 1 bo), (2, .v (.int .i64 (n : Int))), (6, .p 2 0), (7, .v (.int .u64 (modN n))), (9, .v (.int .i64 3)), (10, .v (.int .u32 (trn n (IntKind.u32.wrap (s 7))))), (11, .v (.int .u32 (IntKind.u32.wrap ((s 7) / 4294967296)))), (41, .v (.int .i64 4)), (42, .v (.int .i64 3))]) tabOk M43.mem [] [8, 9, 10] (by kernel_rfl) g2 (fun b3 g3 e3 => ?_)
  have h50 := sub_ok (E := [(0, .p 0 0), (1, .p 1 bo), (2, .v (.int .i64 (n : Int))), (6, .p 2 0), (7, .v (.int .u64 (modN n))), (9, .v (.int .i64 3)), (10, .v (.int .u32 (trn n (IntKind.u32.wrap (s 7))))), (11, .v (.int .u32 (trn n (IntKind.u32.wrap ((s 7) / 4294967296))))), (41, .v (.int .i64 4)), (42, .v (.int .i64 3))]) g3 ⟨by kernel_rfl, by kernel_rfl, by kernel_rfl, by kernel_rfl, by kernel_rfl, by kernel_rfl, by kernel_rfl, by kernel_rfl, by kernel_rfl, by kernel_rfl, trivial⟩
  have d50 := e3.trans (e2.trans (e1.trans d49))
  clear g1 g2 g3 e1 e2 e3 h49 d49
  show Code.wp _ _ _ _ _
  refine regM_seq_store (N := 149) (T := TT) (n := 11) (k := 0) (i := 7) (u := .int .u64 (trn2 n (s 7))) (E2 := [(0, .p 0 0), (1, .p 1 bo), (2, .v (.int .i64 (n : Int))), (6, .p 2 0), (7, .v (.int .u64 (modN n))), (41, .v (.int .i64 4)), (42, .v (.int .i64 3))]) tabOk h50 M43 rfl (by kernel_rfl) rfl ⟨by kernel_rfl, by kernel_rfl, by kernel_rfl, by kernel_rfl, by kernel_rfl, by kernel_rfl, by kernel_rfl, trivial⟩ (fun a51 W51 h51 d51 M51 G51 => ?_)
  show Code.wp _ _ _ _ _
  replace d51 := d51.trans d50
  replace M51 : Mw (bg [⟨g, T, 16, (stm s m)⟩, ⟨bb, Tb, nb, mb⟩, ⟨kb, 71, 32, (fun _ => .int .u8 0)⟩]) [⟨g, T, 16, (upm (upm (upm (upm (upm (upm (upm (upm (stm s m) 0 (.int .u64 (IntKind.u64.wrap ((s 0) + modN n)))) 1 (.int .u64 (IntKind.u64.wrap ((s 1) + modN n)))) 2 (.int .u64 (IntKind.u64.wrap ((s 2) + modN n)))) 3 (.int .u64 (IntKind.u64.wrap ((s 3) + modN n)))) 4 (.int .u64 (trn2 n (s 4)))) 5 (.int .u64 (trn2 n (s 5)))) 6 (.int .u64 (trn2 n (s 6)))) 7 (.int .u64 (trn2 n (s 7))))⟩, ⟨bb, Tb, nb, mb⟩, ⟨kb, 71, 32, (fun _ => .int .u8 0)⟩] W51 := M51
  have F51 := Fr.comp F43 G51 (fun x hx => Or.inl (by simp at hx; subst hx; simp))
  clear F43 G51
  clear h50 d50 M43
  refine regM_seq (N := 149) (T := TT) (n := 2) (E2 := [(0, .p 0 0), (1, .p 1 bo), (2, .v (.int .i64 (n : Int))), (6, .p 2 0), (7, .v (.int .u64 (modN n))), (41, .v (.int .i64 4)), (42, .v (.int .i64 4))]) tabOk h51 M51 rfl (by kernel_rfl) ⟨by kernel_rfl, by kernel_rfl, by kernel_rfl, by kernel_rfl, by kernel_rfl, by kernel_rfl, by kernel_rfl, trivial⟩ (fun a52 h52 d52 => ?_)
  replace d52 := d52.trans d51
  clear h51 d51
  show Code.rounds _ _ _ _ _ _
  rw [rounds_succ]
  refine wp_seq ?_
  refine regM_seq (N := 149) (T := TT) (n := 1) (E2 := [(0, .p 0 0), (1, .p 1 bo), (2, .v (.int .i64 (n : Int))), (6, .p 2 0), (7, .v (.int .u64 (modN n))), (41, .v (.int .i64 4)), (42, .v (.int .i64 4)), (43, .v (.bool false))]) tabOk h52 M51 rfl (by kernel_rfl) ⟨by kernel_rfl, by kernel_rfl, by kernel_rfl, by kernel_rfl, by kernel_rfl, by kernel_rfl, by kernel_rfl, by kernel_rfl, trivial⟩ (fun a53 h53 d53 => ?_)
  show Code.wp _ _ _ _ _
  replace d53 := d53.trans d52
  clear h52 d52
  refine wp_seq ?_
  refine wp_cond_false (h53.2 43 _ rfl) ?_
  refine wp_exit ?_
  refine then_exit (then_exit (exit_in ?_))
  show Code.wp _ _ _ _ _
  refine h a53 W51 (M51.eq0 (fun i hi => ?_)) F51 (sub_ok (E := [(0, .p 0 0), (1, .p 1 bo), (2, .v (.int .i64 (n : Int))), (6, .p 2 0)]) h53 ⟨by kernel_rfl, by kernel_rfl, by kernel_rfl, by kernel_rfl, trivial⟩) d53
  show _ = stm (pre n s) m i
  unfold stm
  by_cases h16 : i < 16
  · rw [if_pos h16]
    exact pre_fin n s m i h16
  · rw [if_neg h16]
    exact pre_far n s m i h16
/-- A block's cells, 32 of which are the octets x. -/
def bufM (bo : Nat) (x : Nat → Int) (m0 : Nat → Value) : Nat → Value := fun i => if bo ≤ i ∧ i < bo + 32 then .int .u8 (x (i - bo)) else m0 i
theorem bufM_at (bo : Nat) (x : Nat → Int) (m0 : Nat → Value) (j : Nat) (hj : j < 32) : bufM bo x m0 (bo + j) = .int .u8 (x j) := by
  unfold bufM
  rw [if_pos (by omega), Nat.add_sub_cancel_left]
/-- The block of the last n octets. -/
def blkA (n : Nat) (x : Nat → Int) (i : Nat) : Int := if 28 ≤ i ∧ i < 28 + 4 then x (n - 4 + (i - 28)) else if 0 ≤ i ∧ i < 0 + n / 4 * 4 then x (i - 0) else 0
def lastW (n : Nat) (x : Nat → Int) : Int := IntKind.u32.wrap (IntKind.u32.wrap (IntKind.u32.wrap (x (n / 4 * 4)) + IntKind.u32.wrap (IntKind.u32.wrap (x (n / 4 * 4 + n % 4 / 2)) * 256)) + IntKind.u32.wrap (IntKind.u32.wrap (x (n - 1)) * 65536))
def blkB (n : Nat) (x : Nat → Int) (i : Nat) : Int := if 16 ≤ i ∧ i < 16 + 4 then byt (lastW n x) (i - 16) else if 0 ≤ i ∧ i < 0 + n / 4 * 4 then x (i - 0) else 0
def blkC (n : Nat) (x : Nat → Int) (i : Nat) : Int := if 0 ≤ i ∧ i < 0 + n / 4 * 4 then x (i - 0) else 0
def blk (n : Nat) (x : Nat → Int) : Nat → Int := if 16 ≤ n then blkA n x else if n % 4 = 0 then blkC n x else blkB n x
/-- A state takes in its last n octets. -/
def hb (n : Nat) (s : Nat → Int) (x : Nat → Int) : Nat → Int := U (pre n s) (blk n x)
theorem updN_one (s x : Nat → Int) : updN 1 s x = U s x := by
  show U s (fun i => x (0 * 32 + i)) = U s x
  congr 1
  funext i
  rw [Nat.zero_mul, Nat.zero_add]
theorem Fr.drop {S S' : List Nat} {a b : World} (h : Fr S a b) (hs : ∀ k, k ∈ S → k ∈ S' ∨ a.heap.size ≤ k) : Fr S' a b := (Fr.refl S' a).comp h hs
end Go.Proofs.YtnehminojlocoaaDoor.PAll
namespace Go.Proofs.YtnehminojlocoaaDoor.PAll
open Go.RowKit Go.Proofs.YtnehminojlocoaaDoorW.PrintWords Go.Proofs.YtnehminojlocoaaDoorW.PrintLast Go.Proofs.YtnehminojlocoaaDoorW.PrintMore
set_option linter.unusedVariables false
set_option linter.unusedSimpArgs false
theorem has_three {β : Nat → Nat} (x0 x1 x2 : SV) (k : Nat) : Has (3 + k) β [(0, x0), (1, x1), (2, x2)] ⟨#[x0.den β, x1.den β, x2.den β] ++ Array.replicate k undef, []⟩ := by
  refine has_list (by simp) ⟨?_, ?_, ?_, trivial⟩
  · show ((#[x0.den β, x1.den β, x2.den β] ++ Array.replicate k undef).getD 0 undef) = _
    rw [Array.getD_eq_getD_getElem?, Array.getElem?_append_left (by simp)]
    rfl
  · show ((#[x0.den β, x1.den β, x2.den β] ++ Array.replicate k undef).getD 1 undef) = _
    rw [Array.getD_eq_getD_getElem?, Array.getElem?_append_left (by simp)]
    rfl
  · show ((#[x0.den β, x1.den β, x2.den β] ++ Array.replicate k undef).getD 2 undef) = _
    rw [Array.getD_eq_getD_getElem?, Array.getElem?_append_left (by simp)]
    rfl
theorem arr_to (W : World) (b i h : Nat) (hh : h ≤ 32) : (Instr.sliceAt 71 (.pointer (some ⟨b, i, none⟩)) none (some (.int .i64 (h : Int))) none).run Tryd.prog W = .ok (.slice (some ⟨b, i, none⟩) h 32) W := by
  simp [go_sem, Instr.sliceAt, Instr.sliceBounds, Instr.sliceBound, und Tryd.underlying71, hh]
theorem arr_from (W : World) (b i l : Nat) (hl : l < 32) : (Instr.sliceAt 71 (.pointer (some ⟨b, i, none⟩)) (some (.int .i64 (l : Int))) none none).run Tryd.prog W = .ok (.slice (some ⟨b, i + l, none⟩) (32 - l) (32 - l)) W := by
  have h1 : l ≤ 32 := by omega
  have h2 : ¬ 32 = l := by omega
  by_cases h0 : l = 0
  · subst h0
    simp [go_sem, Instr.sliceAt, Instr.sliceBounds, Instr.sliceBound, und Tryd.underlying71, Addr.add]
  · simp [go_sem, Instr.sliceAt, Instr.sliceBounds, Instr.sliceBound, und Tryd.underlying71, Addr.add, h1, h2, h0]
theorem and3 (n : Nat) (h : n < 32) : Go.bits .and .i64 (n : Int) 3 = ((n % 4 : Nat) : Int) := by
  rcases (by omega : n = 0 ∨ n = 1 ∨ n = 2 ∨ n = 3 ∨ n = 4 ∨ n = 5 ∨ n = 6 ∨ n = 7 ∨ n = 8 ∨ n = 9 ∨ n = 10 ∨ n = 11 ∨ n = 12 ∨ n = 13 ∨ n = 14 ∨ n = 15 ∨ n = 16 ∨ n = 17 ∨ n = 18 ∨ n = 19 ∨ n = 20 ∨ n = 21 ∨ n = 22 ∨ n = 23 ∨ n = 24 ∨ n = 25 ∨ n = 26 ∨ n = 27 ∨ n = 28 ∨ n = 29 ∨ n = 30 ∨ n = 31) with rfl | rfl | rfl | rfl | rfl | rfl | rfl | rfl | rfl | rfl | rfl | rfl | rfl | rfl | rfl | rfl | rfl | rfl | rfl | rfl | rfl | rfl | rfl | rfl | rfl | rfl | rfl | rfl | rfl | rfl | rfl | rfl
  all_goals rfl
set_option maxHeartbeats 4000000 in
set_option maxRecDepth 100000 in
theorem hb_A (g T bb Tb kb n bo nb : Nat) (hnb : bo + 32 ≤ nb) (s x : Nat → Int) (m mb : Nat → Value) (w W0 : World) (a0 : Act) (hn : 16 ≤ n ∧ n < 32) (hkb : w.heap.size ≤ kb) (β : Nat → Nat)
    (M0 : Mw β [⟨g, T, 16, (stm s m)⟩, ⟨bb, Tb, nb, (bufM bo x mb)⟩, ⟨kb, 71, 32, (fun _ => .int .u8 0)⟩] W0) (F0 : Fr [g, kb] w W0) (h0 : Has 149 β [(0, .p 0 0), (1, .p 1 bo), (2, .v (.int .i64 (n : Int))), (6, .p 2 0)] a0) (d0 : a0.defers = []) :
    Code.wp Tryd.prog hb16 (bodyPost Tryd.prog Tryd.f41 fun e w' => e = .returned (.tuple #[]) ∧ (⟨g, T, 16, stm (U s (blkA n x)) m⟩ : Bl).In w' ∧ Fr [g] w w') a0 W0 := by
  obtain ⟨rfl, _⟩ := id M0
  refine wp_seq ?_
  refine regM_seq (N := 149) (T := TT) (n := 3) (E2 := [(0, .p 0 0), (1, .p 1 bo), (2, .v (.int .i64 (n : Int))), (6, .p 2 0), (12, .v (.int .i64 (Go.bits .and .i64 (n : Int) 3)))]) tabOk h0 M0 rfl (by kernel_rfl) ⟨by kernel_rfl, by kernel_rfl, by kernel_rfl, by kernel_rfl, by kernel_rfl, trivial⟩ (fun a1 h1 d1 => ?_)
  show Code.wp _ _ _ _ _
  replace d1 := d1.trans d0
  clear h0 d0
  rw [and3 n (by omega)] at h1
  refine wp_seq ?_
  refine regM_seq (N := 149) (T := TT) (n := 4) (E2 := [(0, .p 0 0), (1, .p 1 bo), (2, .v (.int .i64 (n : Int))), (6, .p 2 0), (12, .v (.int .i64 ((n % 4 : Nat) : Int))), (13, .v (.int .i64 (IntKind.i64.wrap ((n : Int) - ((n % 4 : Nat) : Int)))))]) tabOk h1 M0 rfl (by kernel_rfl) ⟨by kernel_rfl, by kernel_rfl, by kernel_rfl, by kernel_rfl, by kernel_rfl, by kernel_rfl, trivial⟩ (fun a2 h2 d2 => ?_)
  show Code.wp _ _ _ _ _
  replace d2 := d2.trans d1
  clear h1 d1
  rw [show IntKind.i64.wrap ((n : Int) - ((n % 4 : Nat) : Int)) = ((n / 4 * 4 : Nat) : Int) by rw [i64_w]; unfold wrap64; omega] at h2
  refine wp_seq ?_
  have C3 := fun ty => copy_in (P := Tryd.prog) (W := W0.drew) (M0.2.get (k := 2) rfl) 0 32 32 bb (bo) (n / 4 * 4) (32) (n / 4 * 4) (fun j => .int .u8 (x j)) ((Nat.min_eq_left (by omega)).symm) (by show _ ≤ 32; omega) (fun j hj => (((M0.2.get (k := 1) rfl).cell _ (by show _ < nb; omega)).trans (congrArg some (bufM_at bo x mb _ (by omega))))) (fun j hj => rfl) 22 22 ty 5 Tryd.underlying22 (by kernel_rfl)
  refine regM_scopy (N := 149) (T := TT) (l1 := [0, 1, 2, 3]) (js := 4) (j := 5) (d := 102) (d0 := 101) (t0 := 71) (t1 := 22) (t2 := 22) (sx0 := .p 1 bo) (sl := none) (sh := some (.v (.int .i64 ((n / 4 * 4 : Nat) : Int)))) (s0 := .s 1 (bo) (n / 4 * 4) (32)) (sx := .s 2 0 32 32) (sy := .s 1 (bo) (n / 4 * 4) (32)) (v := goInt ((n / 4 * 4 : Nat) : Int)) (E2 := [(0, .p 0 0), (1, .p 1 bo), (2, .v (.int .i64 (n : Int))), (6, .p 2 0), (12, .v (.int .i64 ((n % 4 : Nat) : Int))), (13, .v (.int .i64 ((n / 4 * 4 : Nat) : Int)))]) (by kernel_rfl) tabOk h2 M0 rfl (by kernel_rfl) (by kernel_rfl) (fun W => arr_to W bb bo (n / 4 * 4) (by omega)) (by kernel_rfl) (fun W' => Mw (bg [⟨g, T, 16, (stm s m)⟩, ⟨bb, Tb, nb, (bufM bo x mb)⟩, ⟨kb, 71, 32, (fun _ => .int .u8 0)⟩]) [⟨g, T, 16, (stm s m)⟩, ⟨bb, Tb, nb, (bufM bo x mb)⟩, ⟨kb, 71, 32, (cpB (fun _ => .int .u8 0) 0 (n / 4 * 4) (fun j => .int .u8 (x j)))⟩] W' ∧ Fr [kb] W0 W')
    (fun ty => by
      obtain ⟨W', h1, h2, h3⟩ := C3 ty
      exact ⟨W', h1, (M0.drew.rep 2 rfl h3 h2 : Mw _ (bset _ 2 _) W'), h3⟩)
    ⟨by kernel_rfl, by kernel_rfl, by kernel_rfl, by kernel_rfl, by kernel_rfl, by kernel_rfl, trivial⟩ rfl rfl (fun _ _ _ _ hd h => And.intro (hd.trans (And.left h)) (And.right h)) (fun a3 W3 h3 d3 hR => ?_)
  show Code.wp _ _ _ _ _
  obtain ⟨M3, G3⟩ := hR
  clear C3
  replace d3 := d3.trans d2
  replace M3 : Mw (bg [⟨g, T, 16, (stm s m)⟩, ⟨bb, Tb, nb, (bufM bo x mb)⟩, ⟨kb, 71, 32, (fun _ => .int .u8 0)⟩]) [⟨g, T, 16, (stm s m)⟩, ⟨bb, Tb, nb, (bufM bo x mb)⟩, ⟨kb, 71, 32, (cpB (fun _ => .int .u8 0) 0 (n / 4 * 4) (fun j => .int .u8 (x j)))⟩] W3 := M3
  have F3 := Fr.comp F0 G3 (fun x hx => Or.inl (by simp at hx; subst hx; simp))
  clear F0 G3
  clear h2 d2 M0
  refine wp_seq ?_
  refine wp_seq ?_
  refine regM_seq (N := 149) (T := TT) (n := 2) (E2 := [(0, .p 0 0), (1, .p 1 bo), (2, .v (.int .i64 (n : Int))), (6, .p 2 0), (12, .v (.int .i64 ((n % 4 : Nat) : Int))), (13, .v (.int .i64 ((n / 4 * 4 : Nat) : Int))), (104, .v (.bool (decide ((n : Int) ≥ 16))))]) tabOk h3 M3 rfl (by kernel_rfl) ⟨by kernel_rfl, by kernel_rfl, by kernel_rfl, by kernel_rfl, by kernel_rfl, by kernel_rfl, by kernel_rfl, trivial⟩ (fun a4 h4 d4 => ?_)
  show Code.wp _ _ _ _ _
  replace d4 := d4.trans d3
  clear h3 d3
  refine wp_cond_true ((h4.2 104 _ rfl).trans (congrArg Value.bool (decide_eq_true (by omega)))) ?_
  replace h4 := sub_ok (E := [(0, .p 0 0), (1, .p 1 bo), (2, .v (.int .i64 (n : Int))), (6, .p 2 0), (12, .v (.int .i64 ((n % 4 : Nat) : Int))), (13, .v (.int .i64 ((n / 4 * 4 : Nat) : Int)))]) h4 ⟨by kernel_rfl, by kernel_rfl, by kernel_rfl, by kernel_rfl, by kernel_rfl, by kernel_rfl, trivial⟩
  have C5 := fun ty => copy_in (P := Tryd.prog) (W := W3.drew) (M3.2.get (k := 2) rfl) 28 4 4 bb (bo + (n - 4)) (32 - (n - 4)) (32 - (n - 4)) (4) (fun j => .int .u8 (x (n - 4 + j))) ((Nat.min_eq_right (by omega)).symm) (by show _ ≤ 32; omega) (fun j hj => (((M3.2.get (k := 1) rfl).cell _ (by show _ < nb; omega)).trans (congrArg some ((congrArg (bufM bo x mb) (Nat.add_assoc _ _ _)).trans (bufM_at bo x mb _ (by omega)))))) (fun j hj => rfl) 22 22 ty 5 Tryd.underlying22 (by kernel_rfl)
  refine regM_scopy (N := 149) (T := TT) (l1 := [0, 1, 2, 3, 4]) (js := 5) (j := 6) (d := 111) (d0 := 110) (t0 := 71) (t1 := 22) (t2 := 22) (sx0 := .p 1 bo) (sl := some (.v (.int .i64 (IntKind.i64.wrap ((n : Int) - 4))))) (sh := none) (s0 := .s 1 (bo + (n - 4)) (32 - (n - 4)) (32 - (n - 4))) (sx := .s 2 28 4 4) (sy := .s 1 (bo + (n - 4)) (32 - (n - 4)) (32 - (n - 4))) (v := goInt ((4 : Nat) : Int)) (E2 := [(0, .p 0 0), (1, .p 1 bo), (2, .v (.int .i64 (n : Int))), (6, .p 2 0), (12, .v (.int .i64 ((n % 4 : Nat) : Int))), (13, .v (.int .i64 ((n / 4 * 4 : Nat) : Int)))]) (by kernel_rfl) tabOk h4 M3 rfl (by kernel_rfl) (by kernel_rfl) (fun W => by
      show (Instr.sliceAt _ _ (some (.int .i64 (IntKind.i64.wrap ((n : Int) - 4)))) none none).run _ _ = _
      rw [show IntKind.i64.wrap ((n : Int) - 4) = ((n - 4 : Nat) : Int) by rw [i64_w]; unfold wrap64; omega]
      exact arr_from W bb bo (n - 4) (by omega)) (by kernel_rfl) (fun W' => Mw (bg [⟨g, T, 16, (stm s m)⟩, ⟨bb, Tb, nb, (bufM bo x mb)⟩, ⟨kb, 71, 32, (fun _ => .int .u8 0)⟩]) [⟨g, T, 16, (stm s m)⟩, ⟨bb, Tb, nb, (bufM bo x mb)⟩, ⟨kb, 71, 32, (cpB (cpB (fun _ => .int .u8 0) 0 (n / 4 * 4) (fun j => .int .u8 (x j))) 28 (4) (fun j => .int .u8 (x (n - 4 + j))))⟩] W' ∧ Fr [kb] W3 W')
    (fun ty => by
      obtain ⟨W', h1, h2, h3⟩ := C5 ty
      exact ⟨W', h1, (M3.drew.rep 2 rfl h3 h2 : Mw _ (bset _ 2 _) W'), h3⟩)
    ⟨by kernel_rfl, by kernel_rfl, by kernel_rfl, by kernel_rfl, by kernel_rfl, by kernel_rfl, trivial⟩ rfl rfl (fun _ _ _ _ hd h => And.intro (hd.trans (And.left h)) (And.right h)) (fun a5 W5 h5 d5 hR => ?_)
  show Code.wp _ _ _ _ _
  obtain ⟨M5, G5⟩ := hR
  clear C5
  replace d5 := d5.trans d4
  replace M5 : Mw (bg [⟨g, T, 16, (stm s m)⟩, ⟨bb, Tb, nb, (bufM bo x mb)⟩, ⟨kb, 71, 32, (fun _ => .int .u8 0)⟩]) [⟨g, T, 16, (stm s m)⟩, ⟨bb, Tb, nb, (bufM bo x mb)⟩, ⟨kb, 71, 32, (cpB (cpB (fun _ => .int .u8 0) 0 (n / 4 * 4) (fun j => .int .u8 (x j))) 28 (4) (fun j => .int .u8 (x (n - 4 + j))))⟩] W5 := M5
  have F5 := Fr.comp F3 G5 (fun x hx => Or.inl (by simp at hx; subst hx; simp))
  clear F3 G5
  clear h4 d4 M3
  have hB : Bts kb 0 32 (blkA n x) W5 := fun i hi => by
    rw [Nat.zero_add, (M5.2.get (k := 2) rfl).cell i hi]
    show some ((cpB (cpB (fun _ => .int .u8 0) 0 (n / 4 * 4) (fun j => .int .u8 (x j))) 28 (4) (fun j => .int .u8 (x (n - 4 + j)))) i) = _
    unfold cpB blkA
    repeat' split
    all_goals rfl
  have P9 := update_walk g T (tl 16 m) s kb 0 32 32 (blkA n x) W5 ((M5.2.get (k := 0) rfl).st (Nat.le_refl 16)) (Or.inl (M5.2.2.1 _ (.tail _ (.head _)))) (by decide) hB
  refine regM_seq_call (N := 149) (T := TT) (n := 2) (f := 40) (d := 148) (args := [.p 0 0, .s 2 0 32 32]) (E2 := [(0, .p 0 0), (1, .p 1 bo), (2, .v (.int .i64 (n : Int))), (6, .p 2 0), (12, .v (.int .i64 ((n % 4 : Nat) : Int))), (13, .v (.int .i64 ((n / 4 * 4 : Nat) : Int)))]) tabOk h5 M5 rfl (by kernel_rfl) Tryd.func40 rfl rfl (fun v W' => Mw (bg [⟨g, T, 16, (stm s m)⟩, ⟨bb, Tb, nb, (bufM bo x mb)⟩, ⟨kb, 71, 32, (fun _ => .int .u8 0)⟩]) [⟨g, T, 16, (stm (updN 1 s (blkA n x)) m)⟩, ⟨bb, Tb, nb, (bufM bo x mb)⟩, ⟨kb, 71, 32, (cpB (cpB (fun _ => .int .u8 0) 0 (n / 4 * 4) (fun j => .int .u8 (x j))) 28 (4) (fun j => .int .u8 (x (n - 4 + j))))⟩] W' ∧ Fr [g] W5 W')
    (P9.mono fun e W' hh => ⟨_, hh.1, (M5.rep 0 rfl hh.2.2 (St.bl (s := updN 1 s (blkA n x)) hh.2.1 (Nat.le_refl 16)) : Mw _ (bset _ 0 _) W'), hh.2.2⟩) ⟨by kernel_rfl, by kernel_rfl, by kernel_rfl, by kernel_rfl, by kernel_rfl, by kernel_rfl, trivial⟩ rfl (fun a6 v6 W6 h6 d6 hR => ?_)
  obtain ⟨M6, G6⟩ := hR
  replace d6 := d6.trans d5
  have F6 := Fr.comp F5 G6 (fun x hx => Or.inl (by simp at hx; subst hx; simp))
  clear F5 G6
  have M9 := M6.2.get (k := 0) rfl
  rw [updN_one] at M9
  exact ⟨d6, _, results_none rfl _ _ _, rfl, M9, F6.drop (fun x hx => by simp at hx; rcases hx with rfl | rfl; exact Or.inl (by simp); exact Or.inr hkb)⟩
set_option maxHeartbeats 4000000 in
set_option maxRecDepth 100000 in
theorem hb_B (g T bb Tb kb n bo nb : Nat) (hnb : bo + 32 ≤ nb) (s x : Nat → Int) (m mb : Nat → Value) (w W0 : World) (a0 : Act) (hn : 0 < n ∧ n < 16 ∧ n % 4 ≠ 0) (hkb : w.heap.size ≤ kb) (β : Nat → Nat)
    (M0 : Mw β [⟨g, T, 16, (stm s m)⟩, ⟨bb, Tb, nb, (bufM bo x mb)⟩, ⟨kb, 71, 32, (fun _ => .int .u8 0)⟩] W0) (F0 : Fr [g, kb] w W0) (h0 : Has 149 β [(0, .p 0 0), (1, .p 1 bo), (2, .v (.int .i64 (n : Int))), (6, .p 2 0)] a0) (d0 : a0.defers = []) :
    Code.wp Tryd.prog hb16 (bodyPost Tryd.prog Tryd.f41 fun e w' => e = .returned (.tuple #[]) ∧ (⟨g, T, 16, stm (U s (blkB n x)) m⟩ : Bl).In w' ∧ Fr [g] w w') a0 W0 := by
  obtain ⟨rfl, _⟩ := id M0
  refine wp_seq ?_
  refine regM_seq (N := 149) (T := TT) (n := 3) (E2 := [(0, .p 0 0), (1, .p 1 bo), (2, .v (.int .i64 (n : Int))), (6, .p 2 0), (12, .v (.int .i64 (Go.bits .and .i64 (n : Int) 3)))]) tabOk h0 M0 rfl (by kernel_rfl) ⟨by kernel_rfl, by kernel_rfl, by kernel_rfl, by kernel_rfl, by kernel_rfl, trivial⟩ (fun a1 h1 d1 => ?_)
  show Code.wp _ _ _ _ _
  replace d1 := d1.trans d0
  clear h0 d0
  rw [and3 n (by omega)] at h1
  refine wp_seq ?_
  refine regM_seq (N := 149) (T := TT) (n := 4) (E2 := [(0, .p 0 0), (1, .p 1 bo), (2, .v (.int .i64 (n : Int))), (6, .p 2 0), (12, .v (.int .i64 ((n % 4 : Nat) : Int))), (13, .v (.int .i64 (IntKind.i64.wrap ((n : Int) - ((n % 4 : Nat) : Int)))))]) tabOk h1 M0 rfl (by kernel_rfl) ⟨by kernel_rfl, by kernel_rfl, by kernel_rfl, by kernel_rfl, by kernel_rfl, by kernel_rfl, trivial⟩ (fun a2 h2 d2 => ?_)
  show Code.wp _ _ _ _ _
  replace d2 := d2.trans d1
  clear h1 d1
  rw [show IntKind.i64.wrap ((n : Int) - ((n % 4 : Nat) : Int)) = ((n / 4 * 4 : Nat) : Int) by rw [i64_w]; unfold wrap64; omega] at h2
  refine wp_seq ?_
  have C3 := fun ty => copy_in (P := Tryd.prog) (W := W0.drew) (M0.2.get (k := 2) rfl) 0 32 32 bb (bo) (n / 4 * 4) (32) (n / 4 * 4) (fun j => .int .u8 (x j)) ((Nat.min_eq_left (by omega)).symm) (by show _ ≤ 32; omega) (fun j hj => (((M0.2.get (k := 1) rfl).cell _ (by show _ < nb; omega)).trans (congrArg some (bufM_at bo x mb _ (by omega))))) (fun j hj => rfl) 22 22 ty 5 Tryd.underlying22 (by kernel_rfl)
  refine regM_scopy (N := 149) (T := TT) (l1 := [0, 1, 2, 3]) (js := 4) (j := 5) (d := 102) (d0 := 101) (t0 := 71) (t1 := 22) (t2 := 22) (sx0 := .p 1 bo) (sl := none) (sh := some (.v (.int .i64 ((n / 4 * 4 : Nat) : Int)))) (s0 := .s 1 (bo) (n / 4 * 4) (32)) (sx := .s 2 0 32 32) (sy := .s 1 (bo) (n / 4 * 4) (32)) (v := goInt ((n / 4 * 4 : Nat) : Int)) (E2 := [(0, .p 0 0), (1, .p 1 bo), (2, .v (.int .i64 (n : Int))), (6, .p 2 0), (12, .v (.int .i64 ((n % 4 : Nat) : Int))), (13, .v (.int .i64 ((n / 4 * 4 : Nat) : Int)))]) (by kernel_rfl) tabOk h2 M0 rfl (by kernel_rfl) (by kernel_rfl) (fun W => arr_to W bb bo (n / 4 * 4) (by omega)) (by kernel_rfl) (fun W' => Mw (bg [⟨g, T, 16, (stm s m)⟩, ⟨bb, Tb, nb, (bufM bo x mb)⟩, ⟨kb, 71, 32, (fun _ => .int .u8 0)⟩]) [⟨g, T, 16, (stm s m)⟩, ⟨bb, Tb, nb, (bufM bo x mb)⟩, ⟨kb, 71, 32, (cpB (fun _ => .int .u8 0) 0 (n / 4 * 4) (fun j => .int .u8 (x j)))⟩] W' ∧ Fr [kb] W0 W')
    (fun ty => by
      obtain ⟨W', h1, h2, h3⟩ := C3 ty
      exact ⟨W', h1, (M0.drew.rep 2 rfl h3 h2 : Mw _ (bset _ 2 _) W'), h3⟩)
    ⟨by kernel_rfl, by kernel_rfl, by kernel_rfl, by kernel_rfl, by kernel_rfl, by kernel_rfl, trivial⟩ rfl rfl (fun _ _ _ _ hd h => And.intro (hd.trans (And.left h)) (And.right h)) (fun a3 W3 h3 d3 hR => ?_)
  show Code.wp _ _ _ _ _
  obtain ⟨M3, G3⟩ := hR
  clear C3
  replace d3 := d3.trans d2
  replace M3 : Mw (bg [⟨g, T, 16, (stm s m)⟩, ⟨bb, Tb, nb, (bufM bo x mb)⟩, ⟨kb, 71, 32, (fun _ => .int .u8 0)⟩]) [⟨g, T, 16, (stm s m)⟩, ⟨bb, Tb, nb, (bufM bo x mb)⟩, ⟨kb, 71, 32, (cpB (fun _ => .int .u8 0) 0 (n / 4 * 4) (fun j => .int .u8 (x j)))⟩] W3 := M3
  have F3 := Fr.comp F0 G3 (fun x hx => Or.inl (by simp at hx; subst hx; simp))
  clear F0 G3
  clear h2 d2 M0
  refine wp_seq ?_
  refine wp_seq ?_
  refine regM_seq (N := 149) (T := TT) (n := 2) (E2 := [(0, .p 0 0), (1, .p 1 bo), (2, .v (.int .i64 (n : Int))), (6, .p 2 0), (12, .v (.int .i64 ((n % 4 : Nat) : Int))), (13, .v (.int .i64 ((n / 4 * 4 : Nat) : Int))), (104, .v (.bool (decide ((n : Int) ≥ 16))))]) tabOk h3 M3 rfl (by kernel_rfl) ⟨by kernel_rfl, by kernel_rfl, by kernel_rfl, by kernel_rfl, by kernel_rfl, by kernel_rfl, by kernel_rfl, trivial⟩ (fun a4 h4 d4 => ?_)
  show Code.wp _ _ _ _ _
  replace d4 := d4.trans d3
  clear h3 d3
  refine wp_cond_false ((h4.2 104 _ rfl).trans (congrArg Value.bool (decide_eq_false (by omega)))) ?_
  replace h4 := sub_ok (E := [(0, .p 0 0), (1, .p 1 bo), (2, .v (.int .i64 (n : Int))), (6, .p 2 0), (12, .v (.int .i64 ((n % 4 : Nat) : Int))), (13, .v (.int .i64 ((n / 4 * 4 : Nat) : Int)))]) h4 ⟨by kernel_rfl, by kernel_rfl, by kernel_rfl, by kernel_rfl, by kernel_rfl, by kernel_rfl, trivial⟩
  refine wp_seq ?_
  refine regM_seq (N := 149) (T := TT) (n := 2) (E2 := [(0, .p 0 0), (1, .p 1 bo), (2, .v (.int .i64 (n : Int))), (6, .p 2 0), (12, .v (.int .i64 ((n % 4 : Nat) : Int))), (13, .v (.int .i64 ((n / 4 * 4 : Nat) : Int))), (113, .v (.bool (((n % 4 : Nat) : Int) != (0 : Int))))]) tabOk h4 M3 rfl (by kernel_rfl) ⟨by kernel_rfl, by kernel_rfl, by kernel_rfl, by kernel_rfl, by kernel_rfl, by kernel_rfl, by kernel_rfl, trivial⟩ (fun a5 h5 d5 => ?_)
  show Code.wp _ _ _ _ _
  replace d5 := d5.trans d4
  clear h4 d4
  refine wp_cond_true ((h5.2 113 _ rfl).trans (congrArg Value.bool (by rw [bne_iff_ne]; omega))) ?_
  replace h5 := sub_ok (E := [(0, .p 0 0), (1, .p 1 bo), (2, .v (.int .i64 (n : Int))), (6, .p 2 0), (12, .v (.int .i64 ((n % 4 : Nat) : Int))), (13, .v (.int .i64 ((n / 4 * 4 : Nat) : Int)))]) h5 ⟨by kernel_rfl, by kernel_rfl, by kernel_rfl, by kernel_rfl, by kernel_rfl, by kernel_rfl, trivial⟩
  refine wp_seq ?_
  refine wp_region ?_
  refine ops_ (N := 149) (M := bm [⟨g, T, 16, (stm s m)⟩, ⟨bb, Tb, nb, (bufM bo x mb)⟩, ⟨kb, 71, 32, (cpB (fun _ => .int .u8 0) 0 (n / 4 * 4) (fun j => .int .u8 (x j)))⟩]) (T := TT) (E' := [(116, .p 1 bo), (115, .v (.int .i64 ((n / 4 * 4 : Nat) : Int))), (114, .p 1 bo), (0, .p 0 0), (1, .p 1 bo), (2, .v (.int .i64 (n : Int))), (6, .p 2 0), (12, .v (.int .i64 ((n % 4 : Nat) : Int))), (13, .v (.int .i64 ((n / 4 * 4 : Nat) : Int)))]) tabOk M3.mem [3, 4, 5, 6] [0, 1, 2] (by kernel_rfl) h5 (fun b1 g1 e1 => ?_)
  refine given_ops (N := 149) (i := 3) (v := .pointer (some ⟨bb, bo + (n / 4 * 4), none⟩)) (l := [4, 5, 6]) rfl rfl rfl (by decide) g1 (op_index (n := 32) (j := n / 4 * 4) rfl (g1.2 116 _ rfl) (g1.2 115 _ rfl) Tryd.underlying71 Tryd.sizeOf5 (by omega)) (fun b2 g2 e2 => ?_)
  refine given_ops (N := 149) (i := 4) (v := .int .u8 (x (n / 4 * 4))) (l := [5, 6]) rfl rfl rfl (by decide) g2 (op_load rfl (g2.2 117 _ rfl) Tryd.isAgg5 (((M3.2.get (k := 1) rfl).cell _ (by show _ < nb; omega)).trans (congrArg some (bufM_at bo x mb _ (by omega))))) (fun b3 g3 e3 => ?_)
  refine ops_ (N := 149) (M := bm [⟨g, T, 16, (stm s m)⟩, ⟨bb, Tb, nb, (bufM bo x mb)⟩, ⟨kb, 71, 32, (cpB (fun _ => .int .u8 0) 0 (n / 4 * 4) (fun j => .int .u8 (x j)))⟩]) (T := TT) (E' := [(14, .v (.int .u32 (IntKind.u32.wrap (x (n / 4 * 4))))), (119, .v (.int .u32 (IntKind.u32.wrap (x (n / 4 * 4))))), (118, .v (.int .u8 (x (n / 4 * 4)))), (117, .v (.pointer (some ⟨bb, bo + (n / 4 * 4), none⟩))), (116, .p 1 bo), (115, .v (.int .i64 ((n / 4 * 4 : Nat) : Int))), (114, .p 1 bo), (0, .p 0 0), (1, .p 1 bo), (2, .v (.int .i64 (n : Int))), (6, .p 2 0), (12, .v (.int .i64 ((n % 4 : Nat) : Int))), (13, .v (.int .i64 ((n / 4 * 4 : Nat) : Int)))]) tabOk M3.mem [] [5, 6] (by kernel_rfl) g3 (fun b4 g4 e4 => ?_)
  have h6 := sub_ok (E := [(0, .p 0 0), (1, .p 1 bo), (2, .v (.int .i64 (n : Int))), (6, .p 2 0), (12, .v (.int .i64 ((n % 4 : Nat) : Int))), (13, .v (.int .i64 ((n / 4 * 4 : Nat) : Int))), (14, .v (.int .u32 (IntKind.u32.wrap (x (n / 4 * 4)))))]) g4 ⟨by kernel_rfl, by kernel_rfl, by kernel_rfl, by kernel_rfl, by kernel_rfl, by kernel_rfl, by kernel_rfl, trivial⟩
  have d6 := e4.trans (e3.trans (e2.trans (e1.trans d5)))
  clear g1 g2 g3 g4 e1 e2 e3 e4 h5 d5
  show Code.wp _ _ _ _ _
  refine wp_seq ?_
  refine wp_region ?_
  refine ops_ (N := 149) (M := bm [⟨g, T, 16, (stm s m)⟩, ⟨bb, Tb, nb, (bufM bo x mb)⟩, ⟨kb, 71, 32, (cpB (fun _ => .int .u8 0) 0 (n / 4 * 4) (fun j => .int .u8 (x j)))⟩]) (T := TT) (E' := [(126, .p 1 bo), (125, .v (.int .i64 (IntKind.i64.wrap (((n / 4 * 4 : Nat) : Int) + ((n % 4 : Nat) : Int) / 2)))), (124, .v (.int .i64 (((n % 4 : Nat) : Int) / 2))), (123, .v (.int .i64 ((n % 4 : Nat) : Int))), (122, .v (.int .i64 ((n / 4 * 4 : Nat) : Int))), (121, .p 1 bo), (120, .v (.int .u32 (IntKind.u32.wrap (x (n / 4 * 4))))), (0, .p 0 0), (1, .p 1 bo), (2, .v (.int .i64 (n : Int))), (6, .p 2 0), (12, .v (.int .i64 ((n % 4 : Nat) : Int))), (13, .v (.int .i64 ((n / 4 * 4 : Nat) : Int))), (14, .v (.int .u32 (IntKind.u32.wrap (x (n / 4 * 4)))))]) tabOk M3.mem [7, 8, 9, 10, 11, 12] [0, 1, 2, 3, 4, 5, 6] (by kernel_rfl) h6 (fun b1 g1 e1 => ?_)
  rw [show (IntKind.i64.wrap (((n / 4 * 4 : Nat) : Int) + ((n % 4 : Nat) : Int) / 2)) = ((n / 4 * 4 + n % 4 / 2 : Nat) : Int) by rw [i64_w]; unfold wrap64; omega] at g1
  refine given_ops (N := 149) (i := 7) (v := .pointer (some ⟨bb, bo + (n / 4 * 4 + n % 4 / 2), none⟩)) (l := [8, 9, 10, 11, 12]) rfl rfl rfl (by decide) g1 (op_index (n := 32) (j := n / 4 * 4 + n % 4 / 2) rfl (g1.2 126 _ rfl) (g1.2 125 _ rfl) Tryd.underlying71 Tryd.sizeOf5 (by omega)) (fun b2 g2 e2 => ?_)
  refine given_ops (N := 149) (i := 8) (v := .int .u8 (x (n / 4 * 4 + n % 4 / 2))) (l := [9, 10, 11, 12]) rfl rfl rfl (by decide) g2 (op_load rfl (g2.2 127 _ rfl) Tryd.isAgg5 (((M3.2.get (k := 1) rfl).cell _ (by show _ < nb; omega)).trans (congrArg some (bufM_at bo x mb _ (by omega))))) (fun b3 g3 e3 => ?_)
  refine ops_ (N := 149) (M := bm [⟨g, T, 16, (stm s m)⟩, ⟨bb, Tb, nb, (bufM bo x mb)⟩, ⟨kb, 71, 32, (cpB (fun _ => .int .u8 0) 0 (n / 4 * 4) (fun j => .int .u8 (x j)))⟩]) (T := TT) (E' := [(14, .v (.int .u32 (IntKind.u32.wrap ((IntKind.u32.wrap (x (n / 4 * 4))) + (IntKind.u32.wrap ((IntKind.u32.wrap (x (n / 4 * 4 + n % 4 / 2))) * 256)))))), (131, .v (.int .u32 (IntKind.u32.wrap ((IntKind.u32.wrap (x (n / 4 * 4))) + (IntKind.u32.wrap ((IntKind.u32.wrap (x (n / 4 * 4 + n % 4 / 2))) * 256)))))), (130, .v (.int .u32 (IntKind.u32.wrap ((IntKind.u32.wrap (x (n / 4 * 4 + n % 4 / 2))) * 256)))), (129, .v (.int .u32 (IntKind.u32.wrap (x (n / 4 * 4 + n % 4 / 2))))), (128, .v (.int .u8 (x (n / 4 * 4 + n % 4 / 2)))), (127, .v (.pointer (some ⟨bb, bo + (n / 4 * 4 + n % 4 / 2), none⟩))), (126, .p 1 bo), (125, .v (.int .i64 ((n / 4 * 4 + n % 4 / 2 : Nat) : Int))), (124, .v (.int .i64 (((n % 4 : Nat) : Int) / 2))), (123, .v (.int .i64 ((n % 4 : Nat) : Int))), (122, .v (.int .i64 ((n / 4 * 4 : Nat) : Int))), (121, .p 1 bo), (120, .v (.int .u32 (IntKind.u32.wrap (x (n / 4 * 4))))), (0, .p 0 0), (1, .p 1 bo), (2, .v (.int .i64 (n : Int))), (6, .p 2 0), (12, .v (.int .i64 ((n % 4 : Nat) : Int))), (13, .v (.int .i64 ((n / 4 * 4 : Nat) : Int))), (14, .v (.int .u32 (IntKind.u32.wrap (x (n / 4 * 4)))))]) tabOk M3.mem [] [9, 10, 11, 12] (by kernel_rfl) g3 (fun b4 g4 e4 => ?_)
  have h7 := sub_ok (E := [(0, .p 0 0), (1, .p 1 bo), (2, .v (.int .i64 (n : Int))), (6, .p 2 0), (12, .v (.int .i64 ((n % 4 : Nat) : Int))), (13, .v (.int .i64 ((n / 4 * 4 : Nat) : Int))), (14, .v (.int .u32 (IntKind.u32.wrap ((IntKind.u32.wrap (x (n / 4 * 4))) + (IntKind.u32.wrap ((IntKind.u32.wrap (x (n / 4 * 4 + n % 4 / 2))) * 256))))))]) g4 ⟨by kernel_rfl, by kernel_rfl, by kernel_rfl, by kernel_rfl, by kernel_rfl, by kernel_rfl, by kernel_rfl, trivial⟩
  have d7 := e4.trans (e3.trans (e2.trans (e1.trans d6)))
  clear g1 g2 g3 g4 e1 e2 e3 e4 h6 d6
  show Code.wp _ _ _ _ _
  refine wp_seq ?_
  refine wp_region ?_
  refine ops_ (N := 149) (M := bm [⟨g, T, 16, (stm s m)⟩, ⟨bb, Tb, nb, (bufM bo x mb)⟩, ⟨kb, 71, 32, (cpB (fun _ => .int .u8 0) 0 (n / 4 * 4) (fun j => .int .u8 (x j)))⟩]) (T := TT) (E' := [(136, .p 1 bo), (135, .v (.int .i64 (IntKind.i64.wrap ((n : Int) - 1)))), (134, .v (.int .i64 (n : Int))), (133, .p 1 bo), (132, .v (.int .u32 (IntKind.u32.wrap ((IntKind.u32.wrap (x (n / 4 * 4))) + (IntKind.u32.wrap ((IntKind.u32.wrap (x (n / 4 * 4 + n % 4 / 2))) * 256)))))), (0, .p 0 0), (1, .p 1 bo), (2, .v (.int .i64 (n : Int))), (6, .p 2 0), (12, .v (.int .i64 ((n % 4 : Nat) : Int))), (13, .v (.int .i64 ((n / 4 * 4 : Nat) : Int))), (14, .v (.int .u32 (IntKind.u32.wrap ((IntKind.u32.wrap (x (n / 4 * 4))) + (IntKind.u32.wrap ((IntKind.u32.wrap (x (n / 4 * 4 + n % 4 / 2))) * 256))))))]) tabOk M3.mem [5, 6, 7, 8, 9, 10] [0, 1, 2, 3, 4] (by kernel_rfl) h7 (fun b1 g1 e1 => ?_)
  rw [show (IntKind.i64.wrap ((n : Int) - 1)) = ((n - 1 : Nat) : Int) by rw [i64_w]; unfold wrap64; omega] at g1
  refine given_ops (N := 149) (i := 5) (v := .pointer (some ⟨bb, bo + (n - 1), none⟩)) (l := [6, 7, 8, 9, 10]) rfl rfl rfl (by decide) g1 (op_index (n := 32) (j := n - 1) rfl (g1.2 136 _ rfl) (g1.2 135 _ rfl) Tryd.underlying71 Tryd.sizeOf5 (by omega)) (fun b2 g2 e2 => ?_)
  refine given_ops (N := 149) (i := 6) (v := .int .u8 (x (n - 1))) (l := [7, 8, 9, 10]) rfl rfl rfl (by decide) g2 (op_load rfl (g2.2 137 _ rfl) Tryd.isAgg5 (((M3.2.get (k := 1) rfl).cell _ (by show _ < nb; omega)).trans (congrArg some (bufM_at bo x mb _ (by omega))))) (fun b3 g3 e3 => ?_)
  refine ops_ (N := 149) (M := bm [⟨g, T, 16, (stm s m)⟩, ⟨bb, Tb, nb, (bufM bo x mb)⟩, ⟨kb, 71, 32, (cpB (fun _ => .int .u8 0) 0 (n / 4 * 4) (fun j => .int .u8 (x j)))⟩]) (T := TT) (E' := [(14, .v (.int .u32 (IntKind.u32.wrap ((IntKind.u32.wrap ((IntKind.u32.wrap (x (n / 4 * 4))) + (IntKind.u32.wrap ((IntKind.u32.wrap (x (n / 4 * 4 + n % 4 / 2))) * 256)))) + (IntKind.u32.wrap ((IntKind.u32.wrap (x (n - 1))) * 65536)))))), (141, .v (.int .u32 (IntKind.u32.wrap ((IntKind.u32.wrap ((IntKind.u32.wrap (x (n / 4 * 4))) + (IntKind.u32.wrap ((IntKind.u32.wrap (x (n / 4 * 4 + n % 4 / 2))) * 256)))) + (IntKind.u32.wrap ((IntKind.u32.wrap (x (n - 1))) * 65536)))))), (140, .v (.int .u32 (IntKind.u32.wrap ((IntKind.u32.wrap (x (n - 1))) * 65536)))), (139, .v (.int .u32 (IntKind.u32.wrap (x (n - 1))))), (138, .v (.int .u8 (x (n - 1)))), (137, .v (.pointer (some ⟨bb, bo + (n - 1), none⟩))), (136, .p 1 bo), (135, .v (.int .i64 ((n - 1 : Nat) : Int))), (134, .v (.int .i64 (n : Int))), (133, .p 1 bo), (132, .v (.int .u32 (IntKind.u32.wrap ((IntKind.u32.wrap (x (n / 4 * 4))) + (IntKind.u32.wrap ((IntKind.u32.wrap (x (n / 4 * 4 + n % 4 / 2))) * 256)))))), (0, .p 0 0), (1, .p 1 bo), (2, .v (.int .i64 (n : Int))), (6, .p 2 0), (12, .v (.int .i64 ((n % 4 : Nat) : Int))), (13, .v (.int .i64 ((n / 4 * 4 : Nat) : Int))), (14, .v (.int .u32 (IntKind.u32.wrap ((IntKind.u32.wrap (x (n / 4 * 4))) + (IntKind.u32.wrap ((IntKind.u32.wrap (x (n / 4 * 4 + n % 4 / 2))) * 256))))))]) tabOk M3.mem [] [7, 8, 9, 10] (by kernel_rfl) g3 (fun b4 g4 e4 => ?_)
  have h8 := sub_ok (E := [(0, .p 0 0), (1, .p 1 bo), (2, .v (.int .i64 (n : Int))), (6, .p 2 0), (12, .v (.int .i64 ((n % 4 : Nat) : Int))), (13, .v (.int .i64 ((n / 4 * 4 : Nat) : Int))), (14, .v (.int .u32 (lastW n x)))]) g4 ⟨by kernel_rfl, by kernel_rfl, by kernel_rfl, by kernel_rfl, by kernel_rfl, by kernel_rfl, by kernel_rfl, trivial⟩
  have d8 := e4.trans (e3.trans (e2.trans (e1.trans d7)))
  clear g1 g2 g3 g4 e1 e2 e3 e4 h7 d7
  show Code.wp _ _ _ _ _
  have P9 := put32_bl (M3.drew.2.get (k := 2) rfl) 16 16 16 (lastW n x) (by decide) (by show _ ≤ 32; decide)
  refine reg_call_last (N := 149) (T := TT) (j := 3) (l1 := [0, 1, 2]) (f := 48) (d := 145) (args := [.v (.agg #[]), .s 2 16 16 16, .v (.int .u32 (lastW n x))]) (E2 := [(0, .p 0 0), (1, .p 1 bo), (2, .v (.int .i64 (n : Int))), (6, .p 2 0), (12, .v (.int .i64 ((n % 4 : Nat) : Int))), (13, .v (.int .i64 ((n / 4 * 4 : Nat) : Int))), (14, .v (.int .u32 (lastW n x)))]) (by kernel_rfl) tabOk h8 M3.mem rfl (by kernel_rfl) (by kernel_rfl) Tryd.func48 rfl rfl (fun v W' => Mw (bg [⟨g, T, 16, (stm s m)⟩, ⟨bb, Tb, nb, (bufM bo x mb)⟩, ⟨kb, 71, 32, (fun _ => .int .u8 0)⟩]) [⟨g, T, 16, (stm s m)⟩, ⟨bb, Tb, nb, (bufM bo x mb)⟩, ⟨kb, 71, 32, (putW (cpB (fun _ => .int .u8 0) 0 (n / 4 * 4) (fun j => .int .u8 (x j))) 16 (lastW n x))⟩] W' ∧ Fr [kb] W3 W')
    (P9.mono fun e W' hh => ⟨_, hh.1, (M3.drew.rep 2 rfl hh.2.2 hh.2.1 : Mw _ (bset _ 2 _) W'), hh.2.2⟩) ⟨by kernel_rfl, by kernel_rfl, by kernel_rfl, by kernel_rfl, by kernel_rfl, by kernel_rfl, by kernel_rfl, trivial⟩ rfl (fun _ _ _ _ hd h => And.intro (hd.trans (And.left h)) (And.right h)) (fun a9 v9 W9 h9 d9 hR => ?_)
  show Code.wp _ _ _ _ _
  obtain ⟨M9, G9⟩ := hR
  replace h9 := sub_ok (E := [(0, .p 0 0), (1, .p 1 bo), (2, .v (.int .i64 (n : Int))), (6, .p 2 0), (12, .v (.int .i64 ((n % 4 : Nat) : Int))), (13, .v (.int .i64 ((n / 4 * 4 : Nat) : Int))), (14, .v (.int .u32 (lastW n x)))]) h9 ⟨by kernel_rfl, by kernel_rfl, by kernel_rfl, by kernel_rfl, by kernel_rfl, by kernel_rfl, by kernel_rfl, trivial⟩
  clear P9
  replace d9 := d9.trans d8
  replace M9 : Mw (bg [⟨g, T, 16, (stm s m)⟩, ⟨bb, Tb, nb, (bufM bo x mb)⟩, ⟨kb, 71, 32, (fun _ => .int .u8 0)⟩]) [⟨g, T, 16, (stm s m)⟩, ⟨bb, Tb, nb, (bufM bo x mb)⟩, ⟨kb, 71, 32, (putW (cpB (fun _ => .int .u8 0) 0 (n / 4 * 4) (fun j => .int .u8 (x j))) 16 (lastW n x))⟩] W9 := M9
  have F9 := Fr.comp F3 G9 (fun x hx => Or.inl (by simp at hx; subst hx; simp))
  clear F3 G9
  clear h8 d8 M3
  have hB : Bts kb 0 32 (blkB n x) W9 := fun i hi => by
    rw [Nat.zero_add, (M9.2.get (k := 2) rfl).cell i hi]
    show some ((putW (cpB (fun _ => .int .u8 0) 0 (n / 4 * 4) (fun j => .int .u8 (x j))) 16 (lastW n x)) i) = _
    unfold putW cpB blkB
    repeat' split
    all_goals rfl
  have P9 := update_walk g T (tl 16 m) s kb 0 32 32 (blkB n x) W9 ((M9.2.get (k := 0) rfl).st (Nat.le_refl 16)) (Or.inl (M9.2.2.1 _ (.tail _ (.head _)))) (by decide) hB
  refine regM_seq_call (N := 149) (T := TT) (n := 2) (f := 40) (d := 148) (args := [.p 0 0, .s 2 0 32 32]) (E2 := [(0, .p 0 0), (1, .p 1 bo), (2, .v (.int .i64 (n : Int))), (6, .p 2 0), (12, .v (.int .i64 ((n % 4 : Nat) : Int))), (13, .v (.int .i64 ((n / 4 * 4 : Nat) : Int))), (14, .v (.int .u32 (lastW n x)))]) tabOk h9 M9 rfl (by kernel_rfl) Tryd.func40 rfl rfl (fun v W' => Mw (bg [⟨g, T, 16, (stm s m)⟩, ⟨bb, Tb, nb, (bufM bo x mb)⟩, ⟨kb, 71, 32, (fun _ => .int .u8 0)⟩]) [⟨g, T, 16, (stm (updN 1 s (blkB n x)) m)⟩, ⟨bb, Tb, nb, (bufM bo x mb)⟩, ⟨kb, 71, 32, (putW (cpB (fun _ => .int .u8 0) 0 (n / 4 * 4) (fun j => .int .u8 (x j))) 16 (lastW n x))⟩] W' ∧ Fr [g] W9 W')
    (P9.mono fun e W' hh => ⟨_, hh.1, (M9.rep 0 rfl hh.2.2 (St.bl (s := updN 1 s (blkB n x)) hh.2.1 (Nat.le_refl 16)) : Mw _ (bset _ 0 _) W'), hh.2.2⟩) ⟨by kernel_rfl, by kernel_rfl, by kernel_rfl, by kernel_rfl, by kernel_rfl, by kernel_rfl, by kernel_rfl, trivial⟩ rfl (fun a10 v10 W10 h10 d10 hR => ?_)
  obtain ⟨M10, G10⟩ := hR
  replace d10 := d10.trans d9
  have F10 := Fr.comp F9 G10 (fun x hx => Or.inl (by simp at hx; subst hx; simp))
  clear F9 G10
  have M9 := M10.2.get (k := 0) rfl
  rw [updN_one] at M9
  exact ⟨d10, _, results_none rfl _ _ _, rfl, M9, F10.drop (fun x hx => by simp at hx; rcases hx with rfl | rfl; exact Or.inl (by simp); exact Or.inr hkb)⟩
set_option maxHeartbeats 4000000 in
set_option maxRecDepth 100000 in
theorem hb_C (g T bb Tb kb n bo nb : Nat) (hnb : bo + 32 ≤ nb) (s x : Nat → Int) (m mb : Nat → Value) (w W0 : World) (a0 : Act) (hn : 0 < n ∧ n < 16 ∧ n % 4 = 0) (hkb : w.heap.size ≤ kb) (β : Nat → Nat)
    (M0 : Mw β [⟨g, T, 16, (stm s m)⟩, ⟨bb, Tb, nb, (bufM bo x mb)⟩, ⟨kb, 71, 32, (fun _ => .int .u8 0)⟩] W0) (F0 : Fr [g, kb] w W0) (h0 : Has 149 β [(0, .p 0 0), (1, .p 1 bo), (2, .v (.int .i64 (n : Int))), (6, .p 2 0)] a0) (d0 : a0.defers = []) :
    Code.wp Tryd.prog hb16 (bodyPost Tryd.prog Tryd.f41 fun e w' => e = .returned (.tuple #[]) ∧ (⟨g, T, 16, stm (U s (blkC n x)) m⟩ : Bl).In w' ∧ Fr [g] w w') a0 W0 := by
  have hmod : n % 4 = 0 := hn.2.2
  obtain ⟨rfl, _⟩ := id M0
  refine wp_seq ?_
  refine regM_seq (N := 149) (T := TT) (n := 3) (E2 := [(0, .p 0 0), (1, .p 1 bo), (2, .v (.int .i64 (n : Int))), (6, .p 2 0), (12, .v (.int .i64 (Go.bits .and .i64 (n : Int) 3)))]) tabOk h0 M0 rfl (by kernel_rfl) ⟨by kernel_rfl, by kernel_rfl, by kernel_rfl, by kernel_rfl, by kernel_rfl, trivial⟩ (fun a1 h1 d1 => ?_)
  show Code.wp _ _ _ _ _
  replace d1 := d1.trans d0
  clear h0 d0
  rw [and3 n (by omega)] at h1
  refine wp_seq ?_
  refine regM_seq (N := 149) (T := TT) (n := 4) (E2 := [(0, .p 0 0), (1, .p 1 bo), (2, .v (.int .i64 (n : Int))), (6, .p 2 0), (12, .v (.int .i64 ((n % 4 : Nat) : Int))), (13, .v (.int .i64 (IntKind.i64.wrap ((n : Int) - ((n % 4 : Nat) : Int)))))]) tabOk h1 M0 rfl (by kernel_rfl) ⟨by kernel_rfl, by kernel_rfl, by kernel_rfl, by kernel_rfl, by kernel_rfl, by kernel_rfl, trivial⟩ (fun a2 h2 d2 => ?_)
  show Code.wp _ _ _ _ _
  replace d2 := d2.trans d1
  clear h1 d1
  rw [show IntKind.i64.wrap ((n : Int) - ((n % 4 : Nat) : Int)) = ((n / 4 * 4 : Nat) : Int) by rw [i64_w]; unfold wrap64; omega] at h2
  refine wp_seq ?_
  have C3 := fun ty => copy_in (P := Tryd.prog) (W := W0.drew) (M0.2.get (k := 2) rfl) 0 32 32 bb (bo) (n / 4 * 4) (32) (n / 4 * 4) (fun j => .int .u8 (x j)) ((Nat.min_eq_left (by omega)).symm) (by show _ ≤ 32; omega) (fun j hj => (((M0.2.get (k := 1) rfl).cell _ (by show _ < nb; omega)).trans (congrArg some (bufM_at bo x mb _ (by omega))))) (fun j hj => rfl) 22 22 ty 5 Tryd.underlying22 (by kernel_rfl)
  refine regM_scopy (N := 149) (T := TT) (l1 := [0, 1, 2, 3]) (js := 4) (j := 5) (d := 102) (d0 := 101) (t0 := 71) (t1 := 22) (t2 := 22) (sx0 := .p 1 bo) (sl := none) (sh := some (.v (.int .i64 ((n / 4 * 4 : Nat) : Int)))) (s0 := .s 1 (bo) (n / 4 * 4) (32)) (sx := .s 2 0 32 32) (sy := .s 1 (bo) (n / 4 * 4) (32)) (v := goInt ((n / 4 * 4 : Nat) : Int)) (E2 := [(0, .p 0 0), (1, .p 1 bo), (2, .v (.int .i64 (n : Int))), (6, .p 2 0), (12, .v (.int .i64 ((n % 4 : Nat) : Int))), (13, .v (.int .i64 ((n / 4 * 4 : Nat) : Int)))]) (by kernel_rfl) tabOk h2 M0 rfl (by kernel_rfl) (by kernel_rfl) (fun W => arr_to W bb bo (n / 4 * 4) (by omega)) (by kernel_rfl) (fun W' => Mw (bg [⟨g, T, 16, (stm s m)⟩, ⟨bb, Tb, nb, (bufM bo x mb)⟩, ⟨kb, 71, 32, (fun _ => .int .u8 0)⟩]) [⟨g, T, 16, (stm s m)⟩, ⟨bb, Tb, nb, (bufM bo x mb)⟩, ⟨kb, 71, 32, (cpB (fun _ => .int .u8 0) 0 (n / 4 * 4) (fun j => .int .u8 (x j)))⟩] W' ∧ Fr [kb] W0 W')
    (fun ty => by
      obtain ⟨W', h1, h2, h3⟩ := C3 ty
      exact ⟨W', h1, (M0.drew.rep 2 rfl h3 h2 : Mw _ (bset _ 2 _) W'), h3⟩)
    ⟨by kernel_rfl, by kernel_rfl, by kernel_rfl, by kernel_rfl, by kernel_rfl, by kernel_rfl, trivial⟩ rfl rfl (fun _ _ _ _ hd h => And.intro (hd.trans (And.left h)) (And.right h)) (fun a3 W3 h3 d3 hR => ?_)
  show Code.wp _ _ _ _ _
  obtain ⟨M3, G3⟩ := hR
  clear C3
  replace d3 := d3.trans d2
  replace M3 : Mw (bg [⟨g, T, 16, (stm s m)⟩, ⟨bb, Tb, nb, (bufM bo x mb)⟩, ⟨kb, 71, 32, (fun _ => .int .u8 0)⟩]) [⟨g, T, 16, (stm s m)⟩, ⟨bb, Tb, nb, (bufM bo x mb)⟩, ⟨kb, 71, 32, (cpB (fun _ => .int .u8 0) 0 (n / 4 * 4) (fun j => .int .u8 (x j)))⟩] W3 := M3
  have F3 := Fr.comp F0 G3 (fun x hx => Or.inl (by simp at hx; subst hx; simp))
  clear F0 G3
  clear h2 d2 M0
  refine wp_seq ?_
  refine wp_seq ?_
  refine regM_seq (N := 149) (T := TT) (n := 2) (E2 := [(0, .p 0 0), (1, .p 1 bo), (2, .v (.int .i64 (n : Int))), (6, .p 2 0), (12, .v (.int .i64 ((n % 4 : Nat) : Int))), (13, .v (.int .i64 ((n / 4 * 4 : Nat) : Int))), (104, .v (.bool (decide ((n : Int) ≥ 16))))]) tabOk h3 M3 rfl (by kernel_rfl) ⟨by kernel_rfl, by kernel_rfl, by kernel_rfl, by kernel_rfl, by kernel_rfl, by kernel_rfl, by kernel_rfl, trivial⟩ (fun a4 h4 d4 => ?_)
  show Code.wp _ _ _ _ _
  replace d4 := d4.trans d3
  clear h3 d3
  refine wp_cond_false ((h4.2 104 _ rfl).trans (congrArg Value.bool (decide_eq_false (by omega)))) ?_
  replace h4 := sub_ok (E := [(0, .p 0 0), (1, .p 1 bo), (2, .v (.int .i64 (n : Int))), (6, .p 2 0), (12, .v (.int .i64 ((n % 4 : Nat) : Int))), (13, .v (.int .i64 ((n / 4 * 4 : Nat) : Int)))]) h4 ⟨by kernel_rfl, by kernel_rfl, by kernel_rfl, by kernel_rfl, by kernel_rfl, by kernel_rfl, trivial⟩
  refine wp_seq ?_
  refine regM_seq (N := 149) (T := TT) (n := 2) (E2 := [(0, .p 0 0), (1, .p 1 bo), (2, .v (.int .i64 (n : Int))), (6, .p 2 0), (12, .v (.int .i64 ((n % 4 : Nat) : Int))), (13, .v (.int .i64 ((n / 4 * 4 : Nat) : Int))), (113, .v (.bool (((n % 4 : Nat) : Int) != (0 : Int))))]) tabOk h4 M3 rfl (by kernel_rfl) ⟨by kernel_rfl, by kernel_rfl, by kernel_rfl, by kernel_rfl, by kernel_rfl, by kernel_rfl, by kernel_rfl, trivial⟩ (fun a5 h5 d5 => ?_)
  show Code.wp _ _ _ _ _
  replace d5 := d5.trans d4
  clear h4 d4
  refine wp_cond_false ((h5.2 113 _ rfl).trans (congrArg Value.bool (by rw [hmod]; rfl))) ?_
  refine wp_skip ?_
  show Code.wp _ _ _ _ _
  replace h5 := sub_ok (E := [(0, .p 0 0), (1, .p 1 bo), (2, .v (.int .i64 (n : Int))), (6, .p 2 0), (12, .v (.int .i64 ((n % 4 : Nat) : Int))), (13, .v (.int .i64 ((n / 4 * 4 : Nat) : Int)))]) h5 ⟨by kernel_rfl, by kernel_rfl, by kernel_rfl, by kernel_rfl, by kernel_rfl, by kernel_rfl, trivial⟩
  have hB : Bts kb 0 32 (blkC n x) W3 := fun i hi => by
    rw [Nat.zero_add, (M3.2.get (k := 2) rfl).cell i hi]
    show some ((cpB (fun _ => .int .u8 0) 0 (n / 4 * 4) (fun j => .int .u8 (x j))) i) = _
    unfold cpB blkC
    repeat' split
    all_goals rfl
  have P9 := update_walk g T (tl 16 m) s kb 0 32 32 (blkC n x) W3 ((M3.2.get (k := 0) rfl).st (Nat.le_refl 16)) (Or.inl (M3.2.2.1 _ (.tail _ (.head _)))) (by decide) hB
  refine regM_seq_call (N := 149) (T := TT) (n := 2) (f := 40) (d := 148) (args := [.p 0 0, .s 2 0 32 32]) (E2 := [(0, .p 0 0), (1, .p 1 bo), (2, .v (.int .i64 (n : Int))), (6, .p 2 0), (12, .v (.int .i64 ((n % 4 : Nat) : Int))), (13, .v (.int .i64 ((n / 4 * 4 : Nat) : Int)))]) tabOk h5 M3 rfl (by kernel_rfl) Tryd.func40 rfl rfl (fun v W' => Mw (bg [⟨g, T, 16, (stm s m)⟩, ⟨bb, Tb, nb, (bufM bo x mb)⟩, ⟨kb, 71, 32, (fun _ => .int .u8 0)⟩]) [⟨g, T, 16, (stm (updN 1 s (blkC n x)) m)⟩, ⟨bb, Tb, nb, (bufM bo x mb)⟩, ⟨kb, 71, 32, (cpB (fun _ => .int .u8 0) 0 (n / 4 * 4) (fun j => .int .u8 (x j)))⟩] W' ∧ Fr [g] W3 W')
    (P9.mono fun e W' hh => ⟨_, hh.1, (M3.rep 0 rfl hh.2.2 (St.bl (s := updN 1 s (blkC n x)) hh.2.1 (Nat.le_refl 16)) : Mw _ (bset _ 0 _) W'), hh.2.2⟩) ⟨by kernel_rfl, by kernel_rfl, by kernel_rfl, by kernel_rfl, by kernel_rfl, by kernel_rfl, trivial⟩ rfl (fun a6 v6 W6 h6 d6 hR => ?_)
  obtain ⟨M6, G6⟩ := hR
  replace d6 := d6.trans d5
  have F6 := Fr.comp F3 G6 (fun x hx => Or.inl (by simp at hx; subst hx; simp))
  clear F3 G6
  have M9 := M6.2.get (k := 0) rfl
  rw [updN_one] at M9
  exact ⟨d6, _, results_none rfl _ _ _, rfl, M9, F6.drop (fun x hx => by simp at hx; rcases hx with rfl | rfl; exact Or.inl (by simp); exact Or.inr hkb)⟩
set_option maxHeartbeats 8000000 in
set_option maxRecDepth 100000 in
theorem hb_walk (g T bb Tb n bo nb : Nat) (hnb : bo + 32 ≤ nb) (s x : Nat → Int) (m mb : Nat → Value) (w : World) (hn0 : 0 < n) (hn : n < 32) (hs : (⟨g, T, 16, stm s m⟩ : Bl).In w) (hb0 : (⟨bb, Tb, nb, bufM bo x mb⟩ : Bl).In w) (hne : bb ≠ g) :
    Calls Tryd.prog 41 #[.pointer (some ⟨g, 0, none⟩), .pointer (some ⟨bb, bo, none⟩), .int .i64 (n : Int)] w fun e w' => e = .returned (.tuple #[]) ∧ (⟨g, T, 16, stm (hb n s x) m⟩ : Bl).In w' ∧ Fr [g] w w' := by
  refine calls_of_wp Tryd.func41 rfl ?_
  have hA0 : Has 149 (fun _ => 0) [(0, .v (.pointer (some ⟨g, 0, none⟩))), (1, .v (.pointer (some ⟨bb, bo, none⟩))), (2, .v (.int .i64 (n : Int)))] ⟨#[.pointer (some ⟨g, 0, none⟩), .pointer (some ⟨bb, bo, none⟩), .int .i64 (n : Int)] ++ Array.replicate 146 undef, []⟩ := has_three (β := fun _ => 0) (.v _) (.v _) (.v _) 146
  have lg : g < w.heap.size := hs.lt
  have lb : bb < w.heap.size := hb0.lt
  refine wp_seq ?_
  refine wp_region ?_
  refine alloc_ops (N := 149) (i := 0) (d := 6) (l := []) rfl rfl rfl (by decide) hA0 rfl allocOk71 (fun a1 hA1 hd1 => ?_)
  have F1 := (Fr.refl [] w).alloc (.cells (Array.replicate 32 (.int .u8 0)) 71)
  have M0 : Mw (bg [⟨g, T, 16, stm s m⟩, ⟨bb, Tb, nb, bufM bo x mb⟩, ⟨w.heap.size, 71, 32, fun _ => .int .u8 0⟩]) [⟨g, T, 16, stm s m⟩, ⟨bb, Tb, nb, bufM bo x mb⟩, ⟨w.heap.size, 71, 32, fun _ => .int .u8 0⟩] (w.alloc (.cells (Array.replicate 32 (.int .u8 0)) 71)) := by
    refine ⟨rfl, hs.on F1 (by simp), ?_, hb0.on F1 (by simp), ?_, bl_rep0 w _ _ _, by simp, trivial⟩
    · intro c hc
      simp only [List.mem_cons, List.not_mem_nil, or_false] at hc
      rcases hc with rfl | rfl
      · exact hne
      · show w.heap.size ≠ g
        omega
    · intro c hc
      simp only [List.mem_cons, List.not_mem_nil, or_false] at hc
      subst hc
      show w.heap.size ≠ bb
      omega
  have h1 := has_list (β := bg [⟨g, T, 16, stm s m⟩, ⟨bb, Tb, nb, bufM bo x mb⟩, ⟨w.heap.size, 71, 32, fun _ => .int .u8 0⟩]) (a := a1) hA1.1 (E := [(0, .p 0 0), (1, .p 1 bo), (2, .v (.int .i64 (n : Int))), (6, .p 2 0)]) ⟨hA1.2 0 _ rfl, hA1.2 1 _ rfl, hA1.2 2 _ rfl, hA1.2 6 _ rfl, trivial⟩
  have F0 : Fr [g, w.heap.size] w (w.alloc (.cells (Array.replicate 32 (.int .u8 0)) 71)) := F1.mono (by simp)
  clear hA0 hA1 F1 hs hb0
  generalize w.alloc (.cells (Array.replicate 32 (.int .u8 0)) 71) = W0 at M0 F0 ⊢
  refine hb_loops g T bb Tb nb w.heap.size bo n s m (bufM bo x mb) w W0 a1 hn _ _ M0 F0 h1 hd1 (fun a W hM hF hH hd => ?_)
  by_cases h16 : 16 ≤ n
  · rw [show hb n s x = U (pre n s) (blkA n x) by rw [hb, blk, if_pos h16]]
    exact hb_A g T bb Tb w.heap.size n bo nb hnb (pre n s) x m mb w W a ⟨h16, hn⟩ (Nat.le_refl _) _ hM hF hH hd
  · by_cases h4 : n % 4 = 0
    · rw [show hb n s x = U (pre n s) (blkC n x) by rw [hb, blk, if_neg h16, if_pos h4]]
      exact hb_C g T bb Tb w.heap.size n bo nb hnb (pre n s) x m mb w W a ⟨hn0, by omega, h4⟩ (Nat.le_refl _) _ hM hF hH hd
    · rw [show hb n s x = U (pre n s) (blkB n x) by rw [hb, blk, if_neg h16, if_neg h4]]
      exact hb_B g T bb Tb w.heap.size n bo nb hnb (pre n s) x m mb w W a ⟨hn0, by omega, h4⟩ (Nat.le_refl _) _ hM hF hH hd
end Go.Proofs.YtnehminojlocoaaDoor.PAll
