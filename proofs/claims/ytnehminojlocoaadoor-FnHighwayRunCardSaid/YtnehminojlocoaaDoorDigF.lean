/- DigF: HdFin, HdStep, HdDig, HdWrite, HdSum, HdNew, HdTxt. -/
import Derived.Test.YtnehminojlocoaaDoorSumC
import Derived.Test.YtnehminojlocoaaDoorSumD
namespace Go.Proofs.YtnehminojlocoaaDoor.PAll
open Go.RowKit Go.Proofs.YtnehminojlocoaaDoorW.PrintWords Go.Proofs.YtnehminojlocoaaDoorW.PrintLast Go.Proofs.YtnehminojlocoaaDoorW.PrintMore
set_option linter.unusedVariables false
set_option linter.unusedSimpArgs false
set_option maxHeartbeats 16000000 in
set_option maxRecDepth 100000 in
theorem finc8_walk (g T ob To no : Nat) (s : Nat → Int) (m om : Nat → Value) (w : World) (hs : (⟨g, T, 16, stm s m⟩ : Bl).In w) (ho : (⟨ob, To, no, om⟩ : Bl).In w) (hne : ob ≠ g) (hno : 8 ≤ no) :
    Calls Tryd.prog 49 #[.slice (some ⟨ob, 0, none⟩) 8 32, .pointer (some ⟨g, 0, none⟩)] w fun e w' => e = .returned (.tuple #[]) ∧ (⟨ob, To, no, fin8 (mixN 4 s) om⟩ : Bl).In w' ∧ Fr [g, ob] w w' := by
  refine calls_of_wp Tryd.func49 rfl ?_
  have hA0 := has_two (β := fun _ => 0) (.v (.slice (some ⟨ob, 0, none⟩) 8 32)) (.v (.pointer (some ⟨g, 0, none⟩))) 265
  have lg : g < w.heap.size := hs.lt
  have lo : ob < w.heap.size := ho.lt
  refine wp_seq ?_
  refine wp_region ?_
  refine alloc_ops (N := 267) (i := 0) (d := 4) (l := []) rfl rfl rfl (by decide) hA0 rfl allocOk61 (fun a1 hA1 hd1 => ?_)
  show Code.wp _ _ _ _ _
  refine wp_seq ?_
  refine wp_region ?_
  refine alloc_ops (N := 267) (i := 0) (d := 5) (l := []) rfl rfl rfl (by decide) hA1 rfl allocOk71 (fun a2 hA2 hd2 => ?_)
  show Code.wp _ _ _ _ _
  rw [alloc_size] at hA2
  have F0 : Fr [g, ob] w ((w.alloc (.cells (Array.replicate 4 (.int .u64 0)) 61)).alloc (.cells (Array.replicate 32 (.int .u8 0)) 71)) := ((Fr.refl _ w).alloc _).alloc _
  have G0 := (Fr.refl [] w).alloc (.cells (Array.replicate 4 (.int .u64 0)) 61)
  have G1 := G0.alloc (.cells (Array.replicate 32 (.int .u8 0)) 71)
  have M0 : Mw (bg [⟨g, T, 16, stm s m⟩, ⟨w.heap.size, 61, 4, (fun _ => .int .u64 0)⟩, ⟨w.heap.size + 1, 71, 32, (fun _ => .int .u8 0)⟩, ⟨ob, To, no, om⟩]) [⟨g, T, 16, stm s m⟩, ⟨w.heap.size, 61, 4, (fun _ => .int .u64 0)⟩, ⟨w.heap.size + 1, 71, 32, (fun _ => .int .u8 0)⟩, ⟨ob, To, no, om⟩] ((w.alloc (.cells (Array.replicate 4 (.int .u64 0)) 61)).alloc (.cells (Array.replicate 32 (.int .u8 0)) 71)) := by
    refine ⟨rfl, hs.on G1 (by simp), ?_, bl_rep2 w _ _ _ _, ?_, bl_rep1 w _ _ _ _, ?_, ho.on G1 (by simp), by simp, trivial⟩
    · intro c hc
      simp only [List.mem_cons, List.not_mem_nil, or_false] at hc
      rcases hc with rfl | rfl | rfl
      · show w.heap.size ≠ g
        omega
      · show w.heap.size + 1 ≠ g
        omega
      · exact hne
    · intro c hc
      simp only [List.mem_cons, List.not_mem_nil, or_false] at hc
      rcases hc with rfl | rfl
      · show w.heap.size + 1 ≠ w.heap.size
        omega
      · show ob ≠ w.heap.size
        omega
    · intro c hc
      simp only [List.mem_cons, List.not_mem_nil, or_false] at hc
      subst hc
      show ob ≠ w.heap.size + 1
      omega
  have h2 := has_list (β := bg [⟨g, T, 16, stm s m⟩, ⟨w.heap.size, 61, 4, (fun _ => .int .u64 0)⟩, ⟨w.heap.size + 1, 71, 32, (fun _ => .int .u8 0)⟩, ⟨ob, To, no, om⟩]) (a := a2) hA2.1 (E := [(0, .s 3 0 8 32), (1, .p 0 0), (4, .p 1 0), (5, .p 2 0)]) ⟨hA2.2 0 _ rfl, hA2.2 1 _ rfl, hA2.2 4 _ rfl, hA2.2 5 _ rfl, trivial⟩
  have d2 : a2.defers = [] := hd2.trans hd1
  clear hA0 hA1 hA2 hd1 hd2 G0 G1 hs ho
  generalize (w.alloc (.cells (Array.replicate 4 (.int .u64 0)) 61)).alloc (.cells (Array.replicate 32 (.int .u8 0)) 71) = W0 at F0 M0 ⊢
  have hQ : ∀ c (a a' : Act) w1, a'.defers = a.defers → bodyPost Tryd.prog Tryd.f49 (fun e w' => e = .returned (.tuple #[]) ∧ (⟨ob, To, no, fin8 (mixN 4 s) om⟩ : Bl).In w' ∧ Fr [g, ob] w w') (.panic c) a w1 → bodyPost Tryd.prog Tryd.f49 (fun e w' => e = .returned (.tuple #[]) ∧ (⟨ob, To, no, fin8 (mixN 4 s) om⟩ : Bl).In w' ∧ Fr [g, ob] w w') (.panic c) a' w1 := fun _ _ _ _ hd h => ⟨hd.trans h.1, h.2⟩
  refine wp_seq ?_
  refine regM_seq (N := 267) (T := TT) (n := 1) (E2 := [(0, .s 3 0 8 32), (1, .p 0 0), (4, .p 1 0), (5, .p 2 0), (6, .v (.int .i64 4))]) tabOk h2 M0 rfl (by kernel_rfl) ⟨by kernel_rfl, by kernel_rfl, by kernel_rfl, by kernel_rfl, by kernel_rfl, trivial⟩ (fun a3 h3 d3 => ?_)
  show Code.wp _ _ _ _ _
  replace d3 := d3.trans d2
  clear h2 d2
  refine wp_seq ?_
  refine wp_seq ?_
  refine regM_seq (N := 267) (T := TT) (n := 3) (E2 := [(0, .s 3 0 8 32), (1, .p 0 0), (4, .p 1 0), (5, .p 2 0), (6, .v (.int .i64 4)), (12, .v (.bool false))]) tabOk h3 M0 rfl (by kernel_rfl) ⟨by kernel_rfl, by kernel_rfl, by kernel_rfl, by kernel_rfl, by kernel_rfl, by kernel_rfl, trivial⟩ (fun a4 h4 d4 => ?_)
  show Code.wp _ _ _ _ _
  replace d4 := d4.trans d3
  clear h3 d3
  refine wp_cond_false (h4.2 12 _ rfl) ?_
  refine wp_seq ?_
  refine regM_seq (N := 267) (T := TT) (n := 3) (E2 := [(0, .s 3 0 8 32), (1, .p 0 0), (4, .p 1 0), (5, .p 2 0), (6, .v (.int .i64 4)), (15, .v (.bool false))]) tabOk h4 M0 rfl (by kernel_rfl) ⟨by kernel_rfl, by kernel_rfl, by kernel_rfl, by kernel_rfl, by kernel_rfl, by kernel_rfl, trivial⟩ (fun a5 h5 d5 => ?_)
  show Code.wp _ _ _ _ _
  replace d5 := d5.trans d4
  clear h4 d4
  refine wp_cond_false (h5.2 15 _ rfl) ?_
  refine wp_skip ?_
  show Code.wp _ _ _ _ _
  refine wp_seq ?_
  refine wp_seq ?_
  refine regM_seq (N := 267) (T := TT) (n := 1) (E2 := [(0, .s 3 0 8 32), (1, .p 0 0), (4, .p 1 0), (5, .p 2 0), (6, .v (.int .i64 4)), (7, .v (.int .i64 0))]) tabOk h5 M0 rfl (by kernel_rfl) ⟨by kernel_rfl, by kernel_rfl, by kernel_rfl, by kernel_rfl, by kernel_rfl, by kernel_rfl, trivial⟩ (fun a6 h6 d6 => ?_)
  show Code.wp _ _ _ _ _
  replace d6 := d6.trans d5
  clear h5 d5
  refine wp_block ?_
  refine wp_loop (fun a wr => ∃ (q : Nat) (pm tm : Nat → Value), q ≤ 4 ∧ Has 267 (bg [⟨g, T, 16, stm s m⟩, ⟨w.heap.size, 61, 4, (fun _ => .int .u64 0)⟩, ⟨w.heap.size + 1, 71, 32, (fun _ => .int .u8 0)⟩, ⟨ob, To, no, om⟩]) [(0, .s 3 0 8 32), (1, .p 0 0), (4, .p 1 0), (5, .p 2 0), (6, .v (.int .i64 4)), (7, .v (.int .i64 (q : Int)))] a ∧ a.defers = [] ∧ Mw (bg [⟨g, T, 16, stm s m⟩, ⟨w.heap.size, 61, 4, (fun _ => .int .u64 0)⟩, ⟨w.heap.size + 1, 71, 32, (fun _ => .int .u8 0)⟩, ⟨ob, To, no, om⟩]) [⟨g, T, 16, stm (mixN q s) m⟩, ⟨w.heap.size, 61, 4, pm⟩, ⟨w.heap.size + 1, 71, 32, tm⟩, ⟨ob, To, no, om⟩] wr ∧ Fr [g, ob] w wr) (fun a _ => 4 - (intOf (a.eval (.tmp 7))).toNat) ⟨0, _, _, by decide, h6, d6, M0, F0⟩ ?_
  rintro a wr ⟨q, pm, tm, hq, hH, hd, hM, hF⟩
  clear h6 d6 M0 F0
  by_cases hlt : q < 4
  · refine fin_round [⟨ob, To, no, om⟩] g T w.heap.size 61 (w.heap.size + 1) 71 4 q (.s 3 0 8 32) _ (mixN q s) m pm tm wr a _ _ hlt (by decide) hM hH (fun c a a' w1 hd h => hQ c a a' w1 hd h) (fun a' W' pm' tm' h1 h2 h4 h5 => ?_)
    refine ⟨⟨q + 1, pm', tm', by omega, h1, h2.trans hd, h4, hF.comp h5 ?_⟩, ?_⟩
    · intro x hx
      simp only [List.mem_cons, List.not_mem_nil, or_false] at hx
      rcases hx with rfl | rfl | rfl
      · exact Or.inl (by simp)
      · exact Or.inr (Nat.le_refl _)
      · exact Or.inr (Nat.le_succ _)
    · have e1 : a'.eval (.tmp 7) = .int .i64 ((q + 1 : Nat) : Int) := h1.2 7 _ rfl
      have e2 : a.eval (.tmp 7) = .int .i64 (q : Int) := hH.2 7 _ rfl
      rw [e1, e2]
      simp only [intOf]
      omega
  · obtain rfl : q = 4 := by omega
    generalize hsf : mixN 4 s = sf at hM
    refine wp_seq ?_
    refine wp_seq ?_
    refine regM_seq (N := 267) (T := TT) (n := 3) (E2 := [(0, .s 3 0 8 32), (1, .p 0 0), (4, .p 1 0), (5, .p 2 0), (18, .v (.bool false))]) tabOk hH hM rfl (by kernel_rfl) ⟨by kernel_rfl, by kernel_rfl, by kernel_rfl, by kernel_rfl, by kernel_rfl, trivial⟩ (fun a0 h0 d0 => ?_)
    show Code.wp _ _ _ _ _
    refine wp_cond_false (h0.2 18 _ rfl) (wp_exit ?_)
    refine then_exit (then_exit (exit_in ?_))
    show Code.wp _ _ _ _ _
    replace d0 := d0.trans hd
    clear hH hd hlt hq
    refine wp_seq ?_
    refine regM_seq (N := 267) (T := TT) (n := 2) (E2 := [(0, .s 3 0 8 32), (1, .p 0 0), (4, .p 1 0), (5, .p 2 0), (93, .v (.int .i64 8))]) tabOk h0 hM rfl (by kernel_rfl) ⟨by kernel_rfl, by kernel_rfl, by kernel_rfl, by kernel_rfl, by kernel_rfl, trivial⟩ (fun a1 h1 d1 => ?_)
    show Code.wp _ _ _ _ _
    replace d1 := d1.trans d0
    clear h0 d0
    refine wp_block ?_
    refine wp_seq ?_
    refine regM_seq (N := 267) (T := TT) (n := 2) (E2 := [(0, .s 3 0 8 32), (1, .p 0 0), (4, .p 1 0), (5, .p 2 0), (93, .v (.int .i64 8)), (94, .v (.bool true))]) tabOk h1 hM rfl (by kernel_rfl) ⟨by kernel_rfl, by kernel_rfl, by kernel_rfl, by kernel_rfl, by kernel_rfl, by kernel_rfl, trivial⟩ (fun a2 h2 d2 => ?_)
    show Code.wp _ _ _ _ _
    replace d2 := d2.trans d1
    clear h1 d1
    refine wp_cond_true (h2.2 94 _ rfl) ?_
    have P3 := put_bl (hM.drew.2.get (k := 3) rfl) 0 8 32 (add4 sf 0 4 8 12) (by decide) (by show 8 ≤ no; omega)
    refine reg_call_last (N := 267) (T := TT) (j := 21) (l1 := [0, 1, 2, 3, 4, 5, 6, 7, 8, 9, 10, 11, 12, 13, 14, 15, 16, 17, 18, 19, 20]) (f := 51) (d := 117) (args := [.v (.agg #[]), .s 3 0 8 32, .v (.int .u64 (add4 sf 0 4 8 12))]) (E2 := [(0, .s 3 0 8 32), (1, .p 0 0), (4, .p 1 0), (5, .p 2 0)]) (by kernel_rfl) tabOk h2 hM.mem rfl (by kernel_rfl) (by kernel_rfl) Tryd.func51 rfl rfl (fun v W' => Mw (bg [⟨g, T, 16, stm s m⟩, ⟨w.heap.size, 61, 4, (fun _ => .int .u64 0)⟩, ⟨w.heap.size + 1, 71, 32, (fun _ => .int .u8 0)⟩, ⟨ob, To, no, om⟩]) [⟨g, T, 16, stm sf m⟩, ⟨w.heap.size, 61, 4, pm⟩, ⟨w.heap.size + 1, 71, 32, tm⟩, ⟨ob, To, no, (putB om 0 (add4 sf 0 4 8 12))⟩] W' ∧ Fr [ob] wr W')
      (P3.mono fun e W' hh => ⟨_, hh.1, (hM.drew.rep 3 rfl hh.2.2 hh.2.1 : Mw _ (bset _ 3 _) W'), hh.2.2⟩) ⟨by kernel_rfl, by kernel_rfl, by kernel_rfl, by kernel_rfl, trivial⟩ rfl (fun _ _ _ _ hd h => And.intro (hd.trans (And.left h)) (And.right h)) (fun a3 v3 W3 h3 d3 hR3 => ?_)
    obtain ⟨M3, G3⟩ := hR3
    replace d3 := d3.trans d2
    have F3 := Fr.comp hF G3 (by intro x hx; left; simp at hx; subst hx; simp)
    replace h3 := sub_ok (E := [(0, .s 3 0 8 32), (1, .p 0 0), (4, .p 1 0), (5, .p 2 0)]) h3 ⟨by kernel_rfl, by kernel_rfl, by kernel_rfl, by kernel_rfl, trivial⟩
    clear h2 P3
    refine in_normal ?_
    subst hsf
    exact ⟨d3, _, results_none rfl _ _ _, rfl, M3.2.get (k := 3) rfl, F3⟩
set_option maxHeartbeats 16000000 in
set_option maxRecDepth 100000 in
theorem finc16_walk (g T ob To no : Nat) (s : Nat → Int) (m om : Nat → Value) (w : World) (hs : (⟨g, T, 16, stm s m⟩ : Bl).In w) (ho : (⟨ob, To, no, om⟩ : Bl).In w) (hne : ob ≠ g) (hno : 16 ≤ no) :
    Calls Tryd.prog 49 #[.slice (some ⟨ob, 0, none⟩) 16 32, .pointer (some ⟨g, 0, none⟩)] w fun e w' => e = .returned (.tuple #[]) ∧ (⟨ob, To, no, fin16 (mixN 6 s) om⟩ : Bl).In w' ∧ Fr [g, ob] w w' := by
  refine calls_of_wp Tryd.func49 rfl ?_
  have hA0 := has_two (β := fun _ => 0) (.v (.slice (some ⟨ob, 0, none⟩) 16 32)) (.v (.pointer (some ⟨g, 0, none⟩))) 265
  have lg : g < w.heap.size := hs.lt
  have lo : ob < w.heap.size := ho.lt
  refine wp_seq ?_
  refine wp_region ?_
  refine alloc_ops (N := 267) (i := 0) (d := 4) (l := []) rfl rfl rfl (by decide) hA0 rfl allocOk61 (fun a1 hA1 hd1 => ?_)
  show Code.wp _ _ _ _ _
  refine wp_seq ?_
  refine wp_region ?_
  refine alloc_ops (N := 267) (i := 0) (d := 5) (l := []) rfl rfl rfl (by decide) hA1 rfl allocOk71 (fun a2 hA2 hd2 => ?_)
  show Code.wp _ _ _ _ _
  rw [alloc_size] at hA2
  have F0 : Fr [g, ob] w ((w.alloc (.cells (Array.replicate 4 (.int .u64 0)) 61)).alloc (.cells (Array.replicate 32 (.int .u8 0)) 71)) := ((Fr.refl _ w).alloc _).alloc _
  have G0 := (Fr.refl [] w).alloc (.cells (Array.replicate 4 (.int .u64 0)) 61)
  have G1 := G0.alloc (.cells (Array.replicate 32 (.int .u8 0)) 71)
  have M0 : Mw (bg [⟨g, T, 16, stm s m⟩, ⟨w.heap.size, 61, 4, (fun _ => .int .u64 0)⟩, ⟨w.heap.size + 1, 71, 32, (fun _ => .int .u8 0)⟩, ⟨ob, To, no, om⟩]) [⟨g, T, 16, stm s m⟩, ⟨w.heap.size, 61, 4, (fun _ => .int .u64 0)⟩, ⟨w.heap.size + 1, 71, 32, (fun _ => .int .u8 0)⟩, ⟨ob, To, no, om⟩] ((w.alloc (.cells (Array.replicate 4 (.int .u64 0)) 61)).alloc (.cells (Array.replicate 32 (.int .u8 0)) 71)) := by
    refine ⟨rfl, hs.on G1 (by simp), ?_, bl_rep2 w _ _ _ _, ?_, bl_rep1 w _ _ _ _, ?_, ho.on G1 (by simp), by simp, trivial⟩
    · intro c hc
      simp only [List.mem_cons, List.not_mem_nil, or_false] at hc
      rcases hc with rfl | rfl | rfl
      · show w.heap.size ≠ g
        omega
      · show w.heap.size + 1 ≠ g
        omega
      · exact hne
    · intro c hc
      simp only [List.mem_cons, List.not_mem_nil, or_false] at hc
      rcases hc with rfl | rfl
      · show w.heap.size + 1 ≠ w.heap.size
        omega
      · show ob ≠ w.heap.size
        omega
    · intro c hc
      simp only [List.mem_cons, List.not_mem_nil, or_false] at hc
      subst hc
      show ob ≠ w.heap.size + 1
      omega
  have h2 := has_list (β := bg [⟨g, T, 16, stm s m⟩, ⟨w.heap.size, 61, 4, (fun _ => .int .u64 0)⟩, ⟨w.heap.size + 1, 71, 32, (fun _ => .int .u8 0)⟩, ⟨ob, To, no, om⟩]) (a := a2) hA2.1 (E := [(0, .s 3 0 16 32), (1, .p 0 0), (4, .p 1 0), (5, .p 2 0)]) ⟨hA2.2 0 _ rfl, hA2.2 1 _ rfl, hA2.2 4 _ rfl, hA2.2 5 _ rfl, trivial⟩
  have d2 : a2.defers = [] := hd2.trans hd1
  clear hA0 hA1 hA2 hd1 hd2 G0 G1 hs ho
  generalize (w.alloc (.cells (Array.replicate 4 (.int .u64 0)) 61)).alloc (.cells (Array.replicate 32 (.int .u8 0)) 71) = W0 at F0 M0 ⊢
  have hQ : ∀ c (a a' : Act) w1, a'.defers = a.defers → bodyPost Tryd.prog Tryd.f49 (fun e w' => e = .returned (.tuple #[]) ∧ (⟨ob, To, no, fin16 (mixN 6 s) om⟩ : Bl).In w' ∧ Fr [g, ob] w w') (.panic c) a w1 → bodyPost Tryd.prog Tryd.f49 (fun e w' => e = .returned (.tuple #[]) ∧ (⟨ob, To, no, fin16 (mixN 6 s) om⟩ : Bl).In w' ∧ Fr [g, ob] w w') (.panic c) a' w1 := fun _ _ _ _ hd h => ⟨hd.trans h.1, h.2⟩
  refine wp_seq ?_
  refine regM_seq (N := 267) (T := TT) (n := 1) (E2 := [(0, .s 3 0 16 32), (1, .p 0 0), (4, .p 1 0), (5, .p 2 0), (6, .v (.int .i64 4))]) tabOk h2 M0 rfl (by kernel_rfl) ⟨by kernel_rfl, by kernel_rfl, by kernel_rfl, by kernel_rfl, by kernel_rfl, trivial⟩ (fun a3 h3 d3 => ?_)
  show Code.wp _ _ _ _ _
  replace d3 := d3.trans d2
  clear h2 d2
  refine wp_seq ?_
  refine wp_seq ?_
  refine regM_seq (N := 267) (T := TT) (n := 3) (E2 := [(0, .s 3 0 16 32), (1, .p 0 0), (4, .p 1 0), (5, .p 2 0), (6, .v (.int .i64 4)), (12, .v (.bool true))]) tabOk h3 M0 rfl (by kernel_rfl) ⟨by kernel_rfl, by kernel_rfl, by kernel_rfl, by kernel_rfl, by kernel_rfl, by kernel_rfl, trivial⟩ (fun a4 h4 d4 => ?_)
  show Code.wp _ _ _ _ _
  replace d4 := d4.trans d3
  clear h3 d3
  refine wp_cond_true (h4.2 12 _ rfl) ?_
  refine regM_seq (N := 267) (T := TT) (n := 1) (E2 := [(0, .s 3 0 16 32), (1, .p 0 0), (4, .p 1 0), (5, .p 2 0), (6, .v (.int .i64 6))]) tabOk h4 M0 rfl (by kernel_rfl) ⟨by kernel_rfl, by kernel_rfl, by kernel_rfl, by kernel_rfl, by kernel_rfl, trivial⟩ (fun a5 h5 d5 => ?_)
  show Code.wp _ _ _ _ _
  replace d5 := d5.trans d4
  clear h4 d4
  refine wp_seq ?_
  refine wp_seq ?_
  refine regM_seq (N := 267) (T := TT) (n := 1) (E2 := [(0, .s 3 0 16 32), (1, .p 0 0), (4, .p 1 0), (5, .p 2 0), (6, .v (.int .i64 6)), (7, .v (.int .i64 0))]) tabOk h5 M0 rfl (by kernel_rfl) ⟨by kernel_rfl, by kernel_rfl, by kernel_rfl, by kernel_rfl, by kernel_rfl, by kernel_rfl, trivial⟩ (fun a6 h6 d6 => ?_)
  show Code.wp _ _ _ _ _
  replace d6 := d6.trans d5
  clear h5 d5
  refine wp_block ?_
  refine wp_loop (fun a wr => ∃ (q : Nat) (pm tm : Nat → Value), q ≤ 6 ∧ Has 267 (bg [⟨g, T, 16, stm s m⟩, ⟨w.heap.size, 61, 4, (fun _ => .int .u64 0)⟩, ⟨w.heap.size + 1, 71, 32, (fun _ => .int .u8 0)⟩, ⟨ob, To, no, om⟩]) [(0, .s 3 0 16 32), (1, .p 0 0), (4, .p 1 0), (5, .p 2 0), (6, .v (.int .i64 6)), (7, .v (.int .i64 (q : Int)))] a ∧ a.defers = [] ∧ Mw (bg [⟨g, T, 16, stm s m⟩, ⟨w.heap.size, 61, 4, (fun _ => .int .u64 0)⟩, ⟨w.heap.size + 1, 71, 32, (fun _ => .int .u8 0)⟩, ⟨ob, To, no, om⟩]) [⟨g, T, 16, stm (mixN q s) m⟩, ⟨w.heap.size, 61, 4, pm⟩, ⟨w.heap.size + 1, 71, 32, tm⟩, ⟨ob, To, no, om⟩] wr ∧ Fr [g, ob] w wr) (fun a _ => 6 - (intOf (a.eval (.tmp 7))).toNat) ⟨0, _, _, by decide, h6, d6, M0, F0⟩ ?_
  rintro a wr ⟨q, pm, tm, hq, hH, hd, hM, hF⟩
  clear h6 d6 M0 F0
  by_cases hlt : q < 6
  · refine fin_round [⟨ob, To, no, om⟩] g T w.heap.size 61 (w.heap.size + 1) 71 6 q (.s 3 0 16 32) _ (mixN q s) m pm tm wr a _ _ hlt (by decide) hM hH (fun c a a' w1 hd h => hQ c a a' w1 hd h) (fun a' W' pm' tm' h1 h2 h4 h5 => ?_)
    refine ⟨⟨q + 1, pm', tm', by omega, h1, h2.trans hd, h4, hF.comp h5 ?_⟩, ?_⟩
    · intro x hx
      simp only [List.mem_cons, List.not_mem_nil, or_false] at hx
      rcases hx with rfl | rfl | rfl
      · exact Or.inl (by simp)
      · exact Or.inr (Nat.le_refl _)
      · exact Or.inr (Nat.le_succ _)
    · have e1 : a'.eval (.tmp 7) = .int .i64 ((q + 1 : Nat) : Int) := h1.2 7 _ rfl
      have e2 : a.eval (.tmp 7) = .int .i64 (q : Int) := hH.2 7 _ rfl
      rw [e1, e2]
      simp only [intOf]
      omega
  · obtain rfl : q = 6 := by omega
    generalize hsf : mixN 6 s = sf at hM
    refine wp_seq ?_
    refine wp_seq ?_
    refine regM_seq (N := 267) (T := TT) (n := 3) (E2 := [(0, .s 3 0 16 32), (1, .p 0 0), (4, .p 1 0), (5, .p 2 0), (18, .v (.bool false))]) tabOk hH hM rfl (by kernel_rfl) ⟨by kernel_rfl, by kernel_rfl, by kernel_rfl, by kernel_rfl, by kernel_rfl, trivial⟩ (fun a0 h0 d0 => ?_)
    show Code.wp _ _ _ _ _
    refine wp_cond_false (h0.2 18 _ rfl) (wp_exit ?_)
    refine then_exit (then_exit (exit_in ?_))
    show Code.wp _ _ _ _ _
    replace d0 := d0.trans hd
    clear hH hd hlt hq
    refine wp_seq ?_
    refine regM_seq (N := 267) (T := TT) (n := 2) (E2 := [(0, .s 3 0 16 32), (1, .p 0 0), (4, .p 1 0), (5, .p 2 0), (93, .v (.int .i64 16))]) tabOk h0 hM rfl (by kernel_rfl) ⟨by kernel_rfl, by kernel_rfl, by kernel_rfl, by kernel_rfl, by kernel_rfl, trivial⟩ (fun a1 h1 d1 => ?_)
    show Code.wp _ _ _ _ _
    replace d1 := d1.trans d0
    clear h0 d0
    refine wp_block ?_
    refine wp_seq ?_
    refine regM_seq (N := 267) (T := TT) (n := 2) (E2 := [(0, .s 3 0 16 32), (1, .p 0 0), (4, .p 1 0), (5, .p 2 0), (93, .v (.int .i64 16)), (94, .v (.bool false))]) tabOk h1 hM rfl (by kernel_rfl) ⟨by kernel_rfl, by kernel_rfl, by kernel_rfl, by kernel_rfl, by kernel_rfl, by kernel_rfl, trivial⟩ (fun a2 h2 d2 => ?_)
    show Code.wp _ _ _ _ _
    replace d2 := d2.trans d1
    clear h1 d1
    refine wp_cond_false (h2.2 94 _ rfl) ?_
    refine wp_seq ?_
    refine regM_seq (N := 267) (T := TT) (n := 2) (E2 := [(0, .s 3 0 16 32), (1, .p 0 0), (4, .p 1 0), (5, .p 2 0), (93, .v (.int .i64 16)), (118, .v (.bool true))]) tabOk h2 hM rfl (by kernel_rfl) ⟨by kernel_rfl, by kernel_rfl, by kernel_rfl, by kernel_rfl, by kernel_rfl, by kernel_rfl, trivial⟩ (fun a3 h3 d3 => ?_)
    show Code.wp _ _ _ _ _
    replace d3 := d3.trans d2
    clear h2 d2
    refine wp_cond_true (h3.2 118 _ rfl) ?_
    refine wp_seq ?_
    have P4 := put_bl (hM.drew.2.get (k := 3) rfl) 0 16 32 (add4 sf 0 6 8 14) (by decide) (by show 8 ≤ no; omega)
    refine reg_call_last (N := 267) (T := TT) (j := 21) (l1 := [0, 1, 2, 3, 4, 5, 6, 7, 8, 9, 10, 11, 12, 13, 14, 15, 16, 17, 18, 19, 20]) (f := 51) (d := 141) (args := [.v (.agg #[]), .s 3 0 16 32, .v (.int .u64 (add4 sf 0 6 8 14))]) (E2 := [(0, .s 3 0 16 32), (1, .p 0 0), (4, .p 1 0), (5, .p 2 0)]) (by kernel_rfl) tabOk h3 hM.mem rfl (by kernel_rfl) (by kernel_rfl) Tryd.func51 rfl rfl (fun v W' => Mw (bg [⟨g, T, 16, stm s m⟩, ⟨w.heap.size, 61, 4, (fun _ => .int .u64 0)⟩, ⟨w.heap.size + 1, 71, 32, (fun _ => .int .u8 0)⟩, ⟨ob, To, no, om⟩]) [⟨g, T, 16, stm sf m⟩, ⟨w.heap.size, 61, 4, pm⟩, ⟨w.heap.size + 1, 71, 32, tm⟩, ⟨ob, To, no, (putB om 0 (add4 sf 0 6 8 14))⟩] W' ∧ Fr [ob] wr W')
      (P4.mono fun e W' hh => ⟨_, hh.1, (hM.drew.rep 3 rfl hh.2.2 hh.2.1 : Mw _ (bset _ 3 _) W'), hh.2.2⟩) ⟨by kernel_rfl, by kernel_rfl, by kernel_rfl, by kernel_rfl, trivial⟩ rfl (fun _ _ _ _ hd h => And.intro (hd.trans (And.left h)) (And.right h)) (fun a4 v4 W4 h4 d4 hR4 => ?_)
    obtain ⟨M4, G4⟩ := hR4
    replace d4 := d4.trans d3
    have F4 := Fr.comp hF G4 (by intro x hx; left; simp at hx; subst hx; simp)
    replace h4 := sub_ok (E := [(0, .s 3 0 16 32), (1, .p 0 0), (4, .p 1 0), (5, .p 2 0)]) h4 ⟨by kernel_rfl, by kernel_rfl, by kernel_rfl, by kernel_rfl, trivial⟩
    clear h3 P4
    show Code.wp _ _ _ _ _
    have P5 := put_bl (M4.drew.2.get (k := 3) rfl) 8 8 24 (add4 sf 1 7 9 15) (by decide) (by show 16 ≤ no; omega)
    refine reg_call_last (N := 267) (T := TT) (j := 22) (l1 := [0, 1, 2, 3, 4, 5, 6, 7, 8, 9, 10, 11, 12, 13, 14, 15, 16, 17, 18, 19, 20, 21]) (f := 51) (d := 164) (args := [.v (.agg #[]), .s 3 8 8 24, .v (.int .u64 (add4 sf 1 7 9 15))]) (E2 := [(0, .s 3 0 16 32), (1, .p 0 0), (4, .p 1 0), (5, .p 2 0)]) (by kernel_rfl) tabOk h4 M4.mem rfl (by kernel_rfl) (by kernel_rfl) Tryd.func51 rfl rfl (fun v W' => Mw (bg [⟨g, T, 16, stm s m⟩, ⟨w.heap.size, 61, 4, (fun _ => .int .u64 0)⟩, ⟨w.heap.size + 1, 71, 32, (fun _ => .int .u8 0)⟩, ⟨ob, To, no, om⟩]) [⟨g, T, 16, stm sf m⟩, ⟨w.heap.size, 61, 4, pm⟩, ⟨w.heap.size + 1, 71, 32, tm⟩, ⟨ob, To, no, (putB (putB om 0 (add4 sf 0 6 8 14)) 8 (add4 sf 1 7 9 15))⟩] W' ∧ Fr [ob] W4 W')
      (P5.mono fun e W' hh => ⟨_, hh.1, (M4.drew.rep 3 rfl hh.2.2 hh.2.1 : Mw _ (bset _ 3 _) W'), hh.2.2⟩) ⟨by kernel_rfl, by kernel_rfl, by kernel_rfl, by kernel_rfl, trivial⟩ rfl (fun _ _ _ _ hd h => And.intro (hd.trans (And.left h)) (And.right h)) (fun a5 v5 W5 h5 d5 hR5 => ?_)
    obtain ⟨M5, G5⟩ := hR5
    replace d5 := d5.trans d4
    have F5 := Fr.comp F4 G5 (by intro x hx; left; simp at hx; subst hx; simp)
    replace h5 := sub_ok (E := [(0, .s 3 0 16 32), (1, .p 0 0), (4, .p 1 0), (5, .p 2 0)]) h5 ⟨by kernel_rfl, by kernel_rfl, by kernel_rfl, by kernel_rfl, trivial⟩
    clear h4 P5
    refine in_normal ?_
    subst hsf
    exact ⟨d5, _, results_none rfl _ _ _, rfl, M5.2.get (k := 3) rfl, F5⟩
set_option maxHeartbeats 8000000 in
set_option maxRecDepth 100000 in
theorem finalizec8_walk (g T ob To no : Nat) (s : Nat → Int) (m om : Nat → Value) (w : World) (hs : (⟨g, T, 16, stm s m⟩ : Bl).In w) (ho : (⟨ob, To, no, om⟩ : Bl).In w) (hne : ob ≠ g) (hno : 8 ≤ no) :
    Calls Tryd.prog 42 #[.slice (some ⟨ob, 0, none⟩) 8 32, .pointer (some ⟨g, 0, none⟩)] w fun e w' => e = .returned (.tuple #[]) ∧ (⟨ob, To, no, fin8 (mixN 4 s) om⟩ : Bl).In w' ∧ Fr [g, ob] w w' := by
  have P0 := finc8_walk g T ob To no s m om w hs ho hne hno
  go_enter Tryd.func42, Tryd.ntmps42
  go_wp2_with fail
  refine P0.mono ?_
  rintro e w1 ⟨rfl, h⟩
  have E1 := Lib.hid h
  clear h P0
  go_wp2_with fail
  refine bodyPost_end (results_none rfl _ _ _) rfl ?_
  exact ⟨rfl, E1.out⟩
set_option maxHeartbeats 8000000 in
set_option maxRecDepth 100000 in
theorem finalizec16_walk (g T ob To no : Nat) (s : Nat → Int) (m om : Nat → Value) (w : World) (hs : (⟨g, T, 16, stm s m⟩ : Bl).In w) (ho : (⟨ob, To, no, om⟩ : Bl).In w) (hne : ob ≠ g) (hno : 16 ≤ no) :
    Calls Tryd.prog 42 #[.slice (some ⟨ob, 0, none⟩) 16 32, .pointer (some ⟨g, 0, none⟩)] w fun e w' => e = .returned (.tuple #[]) ∧ (⟨ob, To, no, fin16 (mixN 6 s) om⟩ : Bl).In w' ∧ Fr [g, ob] w w' := by
  have P0 := finc16_walk g T ob To no s m om w hs ho hne hno
  go_enter Tryd.func42, Tryd.ntmps42
  go_wp2_with fail
  refine P0.mono ?_
  rintro e w1 ⟨rfl, h⟩
  have E1 := Lib.hid h
  clear h P0
  go_wp2_with fail
  refine bodyPost_end (results_none rfl _ _ _) rfl ?_
  exact ⟨rfl, E1.out⟩
end Go.Proofs.YtnehminojlocoaaDoor.PAll
namespace Go.Proofs.YtnehminojlocoaaDoor.PAll
open Go.RowKit Go.Proofs.YtnehminojlocoaaDoorW.PrintWords Go.Proofs.YtnehminojlocoaaDoorW.PrintLast Go.Proofs.YtnehminojlocoaaDoorW.PrintMore
set_option linter.unusedVariables false
set_option linter.unusedSimpArgs false
section
variable {P : Program} {ops : Array Oper} {Q : Exit → Act → World → Prop} {S : World → Prop} {ds : List Nat} {N : Nat} {β : Nat → Nat} {M : Nat → Nat → Option Value} {T : TypeId → Option Ty}
/-- A call that keeps S and tells R. -/
theorem stepR {j d f fuel : Nat} {args : List SV} {fn : Func} {L : Array Bool} {E : List (Nat × SV)} {a : Act} {w : World} (hA : Has N β E a)
    (hB : (readyB .any ops L (L.setIfInBounds j true) j && !(ds.contains j)) = true) (hcl : clV N ops j (some E) = some (f, d, args)) (hf : P.funcs[f]? = some fn) (hname : (fn.name == "runtime.NumGoroutine") = false) (hb : fn.body.isSome = true)
    (R : Value → World → Prop) (hS : ∀ v W', R v W' → S W') (hC : Calls P f (args.map (SV.den β)).toArray w fun e W' => ∃ v, e = .returned v ∧ R v W')
    (h : ∀ a' v W, Has N β ((d, .v v) :: E) a' → a'.defers = a.defers → R v W → wpAnyLast P .any ops Q S ds fuel (L.setIfInBounds j true) a' W) : wpAnyLast P .any ops Q S ds (fuel + 1) L a w := by
  simp only [Bool.and_eq_true, Bool.not_eq_true', List.contains_eq_mem, decide_eq_false_iff_not] at hB
  obtain ⟨hB2, hB6⟩ := hB
  obtain ⟨E1, o1, he1, ho1, hg1, hd1, hN1, xs0, ts, hop1, hargs⟩ := clV_ok hcl
  obtain rfl := Option.some.inj he1
  refine one_ (i := j) (N := some d) _ ho1 hd1 hB2 hB6 (fun K hK => ?_)
  exact call_if hg1 hd1 hN1 hA hf hname hb hop1 hargs R hC (fun v' W' a2 hR h3 h4 => hK.out _ _ (hS _ _ hR) (fun _ => h a2 v' W' h3 h4 hR))
/-- A copy that keeps S and tells R. -/
theorem stepY {j d fuel : Nat} {t1 t2 : TypeId} {sx sy : SV} {v : Value} {L : Array Bool} {E : List (Nat × SV)} {a : Act} {w : World} (hA : Has N β E a)
    (hB : (readyB .any ops L (L.setIfInBounds j true) j && !(ds.contains j)) = true) (hcp : cpV N ops j (some E) = some (d, t1, t2, sx, sy)) (R : World → Prop) (hS : ∀ W', R W' → S W')
    (hrun : ∀ ty, ∃ W', (Builtin.copy_ #[t1, t2] ty #[sx.den β, sy.den β]).run P w = .ok v W' ∧ R W')
    (h : ∀ a' W, Has N β ((d, .v v) :: E) a' → a'.defers = a.defers → R W → wpAnyLast P .any ops Q S ds fuel (L.setIfInBounds j true) a' W) : wpAnyLast P .any ops Q S ds (fuel + 1) L a w := by
  simp only [Bool.and_eq_true, Bool.not_eq_true', List.contains_eq_mem, decide_eq_false_iff_not] at hB
  obtain ⟨hB2, hB6⟩ := hB
  obtain ⟨E1, o, he, ho, hg, hd, hN, hop⟩ := cpV_ok (P := P) (β := β) hcp
  obtain rfl := Option.some.inj he
  refine one_ (i := j) (N := some d) _ ho hd hB2 hB6 (fun K hK => ?_)
  obtain ⟨W', hr, hR⟩ := hrun o.type
  refine value_ (want_ hg) hd (hop a w W' v hA hr) ?_
  exact hK.out _ _ (hS _ hR) (fun _ => h _ W' (hA.put d hN (.v v)) (put_defs _ _ _) hR)
/-- An operation, shown by hand, that makes something, keeps S and tells R. -/
theorem stepN {j d fuel : Nat} {o : Oper} {v : Value} {L : Array Bool} {E : List (Nat × SV)} {a : Act} {w w1 : World} (hA : Has N β E a) (ho : ops[j]? = some o) (hg : o.guard = none) (hd : o.dst = some d) (hN : d < N)
    (hB : (readyB .any ops L (L.setIfInBounds j true) j && !(ds.contains j)) = true) (hrun : (execOp a.eval o).run P w = .ok (.value v) w1) (hS : S w1)
    (h : ∀ a', Has N β ((d, .v v) :: E) a' → a'.defers = a.defers → wpAnyLast P .any ops Q S ds fuel (L.setIfInBounds j true) a' w1) : wpAnyLast P .any ops Q S ds (fuel + 1) L a w := by
  simp only [Bool.and_eq_true, Bool.not_eq_true', List.contains_eq_mem, decide_eq_false_iff_not] at hB
  obtain ⟨hB2, hB6⟩ := hB
  refine one_ (i := j) (N := some d) _ ho hd hB2 hB6 (fun K hK => ?_)
  refine value_ (want_ hg) hd hrun ?_
  exact hK.out _ _ hS (fun _ => h _ (hA.put d hN (.v v)) (put_defs _ _ _))
/-- Which method a call calls of what lies in a slot. -/
def cmV (N : Nat) (ops : Array Oper) (j : Nat) (r : Option (List (Nat × SV))) : Option (String × Nat × TypeId × SV × List SV) :=
  match r, ops[j]? with
  | some E, some o => match o.op, o.guard, o.dst with
    | .call c, none, some d => match c.callee, Nat.blt d N with
      | .invoke x nm, true => match evO E x, argL E c.args.toList with
        | some (.v (.iface t u)), some l => some (nm, d, t, .v u, l)
        | _, _ => none
      | _, _ => none
    | _, _, _ => none
  | _, _ => none
theorem goesI {o : Oper} {ρ : Operand → Value} {w : World} {f : FuncId} {fn : Func} {x : Operand} {xs : Array Operand} {ts : Array TypeId} {nm : String} {t : TypeId} {u u' : Value} (hf : P.funcs[f]? = some fn) (hname : (fn.name == "runtime.NumGoroutine") = false) (hb : fn.body.isSome = true)
    (hop : o.op = .call { callee := .invoke x nm, args := xs, argTypes := ts }) (hx : ρ x = .iface t u) (hm : ∀ w, (method (P.types.size + Made.depth) t u nm).run P w = .ok (f, u') w) :
    (execOp ρ o).run P w = .ok (.enter f (#[u'] ++ xs.map ρ)) w := by
  have he := enters_ hf hname hb (#[u'] ++ xs.map ρ) w
  unfold execOp
  rw [hop]
  have hex : (#[Value.iface t u] ++ xs.map ρ).extract 1 (#[Value.iface t u] ++ xs.map ρ).size = xs.map ρ := by
    apply Array.ext'
    simp
    rw [List.take_of_length_le (by simp)]
  simp only [resolve, hx, Sem.run_bind, Sem.run_pure, Result.andThen_ok, invoke]
  have h0 : (#[Value.iface t u] ++ xs.map ρ)[0]? = some (.iface t u) := by
    rw [Array.getElem?_append_left (by simp)]
    rfl
  simp only [h0, hex, callMethod, Sem.run_bind]
  have hp : (program : Sem Program).run P w = .ok P w := rfl
  rw [hp]
  simp only [Result.andThen_ok]
  rw [hm w]
  exact he
theorem cmV_ok {j d : Nat} {nm : String} {t : TypeId} {s : SV} {l : List SV} {r : Option (List (Nat × SV))} (h : cmV N ops j r = some (nm, d, t, s, l)) : ∃ E o, r = some E ∧ ops[j]? = some o ∧ o.guard = none ∧ o.dst = some d ∧ d < N ∧
    ∃ x xs0 ts u, s = .v u ∧ o.op = .call { callee := .invoke x nm, args := xs0, argTypes := ts } ∧ evO E x = some (.v (.iface t u)) ∧ argL E xs0.toList = some l := by
  unfold cmV at h
  split at h
  · next E o ho =>
    split at h
    · next c d0 hop hg hd =>
      split at h
      · next x nm' hc hN =>
        split at h
        · next t' u l' hx hl =>
          simp only [Option.some.injEq, Prod.mk.injEq] at h
          obtain ⟨rfl, rfl, rfl, rfl, rfl⟩ := h
          obtain ⟨callee, args, ats⟩ := c
          obtain rfl : callee = _ := hc
          exact ⟨E, o, rfl, ho, hg, hd, Eq.mp Nat.blt_eq hN, x, args, ats, u, rfl, hop, hx, hl⟩
        · cases h
      · cases h
    · cases h
  · cases h
theorem meth_if {d f : Nat} {o : Oper} {fn : Func} {x : Operand} {xs0 : Array Operand} {ts : Array TypeId} {args : List SV} {nm : String} {t : TypeId} {u u' : Value} {a : Act} {w : World} {E : List (Nat × SV)} {K : Act → World → Prop} (hg : o.guard = none) (hd : o.dst = some d) (hN : d < N) (hA : Has N β E a) (hf : P.funcs[f]? = some fn) (hname : (fn.name == "runtime.NumGoroutine") = false) (hb : fn.body.isSome = true)
    (hop : o.op = .call { callee := .invoke x nm, args := xs0, argTypes := ts }) (hx : evO E x = some (.v (.iface t u))) (hm : ∀ w, (method (P.types.size + Made.depth) t u nm).run P w = .ok (f, u') w) (hargs : argL E xs0.toList = some args) (R : Value → World → Prop) (hC : Calls P f (u' :: args.map (SV.den β)).toArray w fun e w' => ∃ v, e = .returned v ∧ R v w')
    (h : ∀ v w' a', R v w' → Has N β ((d, .v v) :: E) a' → a'.defers = a.defers → K a' w') : if Region.wanted o (yielded ops a.tmps) = true then Oper.wp P o a w K Q else K (a.put (some d) undef) w := by
  refine call_ f _ (want_ hg) hd (goesI hf hname hb hop (evO_ok hA hx) hm) ?_
  have e : (#[u'] ++ xs0.map a.eval) = (u' :: args.map (SV.den β)).toArray := by
    apply Array.ext'
    simp [argL_ok hA hargs]
  rw [e]
  exact hC.mono fun e w' hh => by
    obtain ⟨v, rfl, hr⟩ := hh
    exact ⟨v, rfl, h v w' _ hr (hA.put d hN (.v v)) (put_defs _ _ _)⟩
/-- A method's call that keeps S and tells R. -/
theorem stepI {j d f fuel : Nat} {args : List SV} {fn : Func} {nm : String} {t : TypeId} {u u' : Value} {L : Array Bool} {E : List (Nat × SV)} {a : Act} {w : World} (hA : Has N β E a)
    (hB : (readyB .any ops L (L.setIfInBounds j true) j && !(ds.contains j)) = true) (hcl : cmV N ops j (some E) = some (nm, d, t, .v u, args)) (hf : P.funcs[f]? = some fn) (hname : (fn.name == "runtime.NumGoroutine") = false) (hb : fn.body.isSome = true)
    (hm : ∀ w, (method (P.types.size + Made.depth) t u nm).run P w = .ok (f, u') w)
    (R : Value → World → Prop) (hS : ∀ v W', R v W' → S W') (hC : Calls P f (u' :: args.map (SV.den β)).toArray w fun e W' => ∃ v, e = .returned v ∧ R v W')
    (h : ∀ a' v W, Has N β ((d, .v v) :: E) a' → a'.defers = a.defers → R v W → wpAnyLast P .any ops Q S ds fuel (L.setIfInBounds j true) a' W) : wpAnyLast P .any ops Q S ds (fuel + 1) L a w := by
  simp only [Bool.and_eq_true, Bool.not_eq_true', List.contains_eq_mem, decide_eq_false_iff_not] at hB
  obtain ⟨hB2, hB6⟩ := hB
  obtain ⟨E1, o1, he1, ho1, hg1, hd1, hN1, x, xs0, ts, u0, hu, hop1, hx, hargs⟩ := cmV_ok hcl
  obtain rfl := Option.some.inj he1
  obtain rfl : u = u0 := by injection hu
  refine one_ (i := j) (N := some d) _ ho1 hd1 hB2 hB6 (fun K hK => ?_)
  exact meth_if hg1 hd1 hN1 hA hf hname hb hop1 hx hm hargs R hC (fun v' W' a2 hR h3 h4 => hK.out _ _ (hS _ _ hR) (fun _ => h a2 v' W' h3 h4 hR))
/-- The same in the order of the text. -/
theorem meth_ops {i d f : Nat} {args : List SV} {fn : Func} {nm : String} {t : TypeId} {u u' : Value} {l : List Nat} {E : List (Nat × SV)} {a : Act} {w : World} (hA : Has N β E a)
    (hcl : cmV N ops i (some E) = some (nm, d, t, .v u, args)) (hf : P.funcs[f]? = some fn) (hname : (fn.name == "runtime.NumGoroutine") = false) (hb : fn.body.isSome = true)
    (hm : ∀ w, (method (P.types.size + Made.depth) t u nm).run P w = .ok (f, u') w)
    (R : Value → World → Prop) (hC : Calls P f (u' :: args.map (SV.den β)).toArray w fun e W' => ∃ v, e = .returned v ∧ R v W')
    (h : ∀ v w' a', R v w' → Has N β ((d, .v v) :: E) a' → a'.defers = a.defers → wpOps P ops Q l a' w') : wpOps P ops Q (i :: l) a w := by
  obtain ⟨E1, o1, he1, ho1, hg1, hd1, hN1, x, xs0, ts, u0, hu, hop1, hx, hargs⟩ := cmV_ok hcl
  obtain rfl := Option.some.inj he1
  obtain rfl : u = u0 := by injection hu
  have key := meth_if (P := P) (ops := ops) (Q := Q) (K := wpOps P ops Q l) hg1 hd1 hN1 hA hf hname hb hop1 hx hm hargs R hC h
  unfold wpOps
  simp only [ho1]
  rw [if_pos (want_ hg1)] at key ⊢
  exact Or.inl key
end
end Go.Proofs.YtnehminojlocoaaDoor.PAll
namespace Go.Proofs.YtnehminojlocoaaDoor.PAll
open Go.RowKit Go.Proofs.YtnehminojlocoaaDoorW.PrintWords Go.Proofs.YtnehminojlocoaaDoorW.PrintLast Go.Proofs.YtnehminojlocoaaDoorW.PrintMore
set_option linter.unusedVariables false
set_option linter.unusedSimpArgs false
/-- Blocks by number. -/
def bn : List Nat → Nat → Nat
  | [], _ => 0
  | g :: _, 0 => g
  | _ :: l, k + 1 => bn l k
theorem bg_bn : ∀ L : List Bl, bg L = bn (L.map Bl.g)
  | [] => rfl
  | b :: L => by
    funext k
    cases k with
    | zero => rfl
    | succ k => exact congrFun (bg_bn L) k
/-- What lies in a digest behind the state: key, buffer, offset, size. -/
def dgr (y z : Nat → Int) (q sz : Nat) : Nat → Value := fun i => if i < 48 then .int .u8 (y (i - 16)) else if i < 80 then .int .u8 (z (i - 48)) else if i = 80 then .int .i64 (q : Int) else .int .i64 (sz : Int)
/-- A digest in block g. -/
def Dig (g : Nat) (T : TypeId) (s y z : Nat → Int) (q sz : Nat) : Bl := ⟨g, T, 82, stm s (dgr y z q sz)⟩
theorem stm_stm (a b : Nat → Int) (m : Nat → Value) : stm a (stm b m) = stm a m := by
  funext i
  unfold stm
  split <;> rfl
theorem upm_q (s y z : Nat → Int) (q sz r : Nat) : upm (stm s (dgr y z q sz)) 80 (.int .i64 (r : Int)) = stm s (dgr y z r sz) := by
  funext i
  unfold upm stm dgr
  by_cases h : i = 80
  · subst h
    rfl
  · simp only [h, if_false]
def cpz (z : Nat → Int) (o k : Nat) (x : Nat → Int) : Nat → Int := fun i => if o ≤ i ∧ i < o + k then x (i - o) else z i
theorem cp_buf (s y z x : Nat → Int) (q sz o k : Nat) (h : o + k ≤ 32) : cpB (stm s (dgr y z q sz)) (48 + o) k (fun j => .int .u8 (x j)) = stm s (dgr y (cpz z o k x) q sz) := by
  funext i
  unfold cpB stm dgr cpz
  by_cases h1 : 48 + o ≤ i ∧ i < 48 + o + k
  · rw [if_pos h1, if_neg (by omega), if_neg (by omega), if_pos (by omega), if_pos (by omega)]
    rw [show i - 48 - o = i - (48 + o) by omega]
  · rw [if_neg h1]
    split
    · rfl
    · split
      · rfl
      · split
        · rw [if_neg (by omega)]
        · rfl
theorem dig_key {g : Nat} {T : TypeId} {s y z : Nat → Int} {q sz : Nat} {W : World} (h : (Dig g T s y z q sz).In W) : Bts g 16 32 y W := fun i hi => by
  refine (h.cell (16 + i) (show 16 + i < 82 by omega)).trans ?_
  show some (stm s (dgr y z q sz) (16 + i)) = _
  unfold stm dgr
  rw [if_neg (by omega), if_pos (by omega), Nat.add_sub_cancel_left]
theorem dig_buf {g : Nat} {T : TypeId} {s y z : Nat → Int} {q sz : Nat} {W : World} (h : (Dig g T s y z q sz).In W) : Bts g 48 32 z W := fun i hi => by
  refine (h.cell (48 + i) (show 48 + i < 82 by omega)).trans ?_
  show some (stm s (dgr y z q sz) (48 + i)) = _
  unfold stm dgr
  rw [if_neg (by omega), if_neg (by omega), if_pos (by omega), Nat.add_sub_cancel_left]
theorem dig_off {g : Nat} {T : TypeId} {s y z : Nat → Int} {q sz : Nat} {W : World} (h : (Dig g T s y z q sz).In W) : W.cell? ⟨g, 80, none⟩ = some (.int .i64 (q : Int)) := h.cell 80 (show 80 < 82 by decide)
theorem dig_put {g : Nat} {T : TypeId} {s y z : Nat → Int} {q sz : Nat} {W : World} (h : (Dig g T s y z q sz).In W) (r : Nat) : (Dig g T s y z r sz).In (W.setCell ⟨g, 80, none⟩ (.int .i64 (r : Int))) := by
  have h1 := h.put 80 (show 80 < 82 by decide) (.int .i64 (r : Int))
  have e : (Dig g T s y z q sz).put 80 (.int .i64 (r : Int)) = Dig g T s y z r sz := by
    show (⟨g, T, 82, upm (stm s (dgr y z q sz)) 80 (.int .i64 (r : Int))⟩ : Bl) = _
    rw [upm_q]
    rfl
  rw [e] at h1
  exact h1
theorem dig_cp {g : Nat} {T : TypeId} {s y z : Nat → Int} {q sz : Nat} {W : World} (h : (Dig g T s y z q sz).In W) (b o n c o1 nd cd k : Nat) (x : Nat → Int) (hk : k = Nat.min n nd) (ho : o1 + k ≤ 32) (hx : Bts b o k x W) (ty : TypeId) :
    ∃ W', (Builtin.copy_ #[22, 22] ty #[.slice (some ⟨g, 48 + o1, none⟩) nd cd, .slice (some ⟨b, o, none⟩) n c]).run Tryd.prog W = .ok (goInt k) W' ∧ (Dig g T s y (cpz z o1 k x) q sz).In W' ∧ Fr [g] W W' := by
  obtain ⟨W', h1, h2, h3⟩ := copy_in (P := Tryd.prog) h (48 + o1) nd cd b o n c k (fun j => .int .u8 (x j)) hk (show 48 + o1 + k ≤ 82 by omega) hx (fun _ _ => rfl) 22 22 ty 5 Tryd.underlying22 (by kernel_rfl)
  refine ⟨W', h1, ?_, h3⟩
  have e : cpB (Dig g T s y z q sz).m (48 + o1) k (fun j => .int .u8 (x j)) = stm s (dgr y (cpz z o1 k x) q sz) := cp_buf s y z x q sz o1 k ho
  rw [e] at h2
  exact h2
theorem dig_st {g : Nat} {T : TypeId} {s y z : Nat → Int} {q sz : Nat} {W : World} (h : (Dig g T s y z q sz).In W) : St g T (tl 82 (dgr y z q sz)) s W := h.st (by decide)
theorem st_dig {g : Nat} {T : TypeId} {s y z : Nat → Int} {q sz : Nat} {W : World} (h : St g T (tl 82 (dgr y z q sz)) s W) : (Dig g T s y z q sz).In W := h.bl (by decide)
theorem dig_mw {g : Nat} {T : TypeId} {s y z : Nat → Int} {q sz : Nat} {W : World} (h : (Dig g T s y z q sz).In W) : Mw (bn [g]) [Dig g T s y z q sz] W := ⟨bg_bn _, h, by simp, trivial⟩
set_option maxHeartbeats 8000000 in
set_option maxRecDepth 100000 in
theorem reset_walk (g T : Nat) (s y z : Nat → Int) (q sz : Nat) (w : World) (hd : (Dig g T s y z q sz).In w) :
    Calls Tryd.prog 44 #[.pointer (some ⟨g, 0, none⟩)] w fun e w' => e = .returned (.tuple #[]) ∧ (Dig g T (ini (keyN y)) y z 0 sz).In w' ∧ Fr [g] w w' := by
  refine calls_of_wp Tryd.func44 rfl ?_
  have h0 := has_list (β := bn [g]) (N := 13) (a := ⟨#[.pointer (some ⟨g, 0, none⟩)] ++ Array.replicate 12 undef, []⟩) rfl (E := [(0, .p 0 0)]) ⟨rfl, trivial⟩
  have M0 := dig_mw hd
  have P := initialize_walk g T 66 g 16 32 y (stm s (dgr y z q sz)) w.drew (Nat.le_refl _) hd (dig_key hd)
  refine wp_seq ?_
  refine reg_call_last (N := 13) (T := TT) (M := bm [Dig g T s y z q sz]) (j := 7) (l1 := [0, 1, 2, 3, 4, 5, 6]) (f := 39) (d := 9) (args := [.p 0 0, .s 0 16 32 32]) (E2 := [(0, .p 0 0)]) (by kernel_rfl) tabOk h0 M0.mem rfl (by kernel_rfl) (by kernel_rfl) Tryd.func39 rfl rfl (fun v W' => (Dig g T (ini (keyN y)) y z q sz).In W' ∧ Fr [g] w W') (P.mono fun e W' hh => ⟨_, hh.1, ?_, hh.2.2⟩) ⟨by kernel_rfl, trivial⟩ rfl (fun _ _ _ _ hd h => And.intro (hd.trans (And.left h)) (And.right h)) (fun a1 v1 W1 h1 d1 hR => ?_)
  · have h2 := hh.2.1
    rw [stm_stm] at h2
    exact h2
  obtain ⟨hd1, G1⟩ := hR
  show Code.wp _ _ _ _ _
  have h2 := sub_ok (E := [(0, .p 0 0)]) h1 ⟨by kernel_rfl, trivial⟩
  refine regM_seq_store (N := 13) (T := TT) (n := 3) (k := 0) (i := 80) (u := .int .i64 0) (E2 := [(0, .p 0 0)]) tabOk h2 (dig_mw hd1) rfl (by kernel_rfl) rfl ⟨by kernel_rfl, trivial⟩ (fun a3 W3 h3 d3 M3 G3 => ?_)
  have h4 := M3.2.get (k := 0) rfl
  refine ⟨d3.trans d1, _, results_none rfl _ _ _, rfl, ?_, G1.trans G3⟩
  have e : (⟨g, T, 82, upm (stm (ini (keyN y)) (dgr y z q sz)) 80 (.int .i64 ((0 : Nat) : Int))⟩ : Bl) = Dig g T (ini (keyN y)) y z 0 sz := by
    rw [upm_q]
    rfl
  rw [← e]
  exact h4
theorem size_walk (g T : Nat) (s y z : Nat → Int) (q sz : Nat) (w : World) (hd : (Dig g T s y z q sz).In w) :
    Calls Tryd.prog 70 #[.pointer (some ⟨g, 0, none⟩)] w fun e w' => e = .returned (.int .i64 (sz : Int)) ∧ Below w.heap.size w w' := by
  have c0 : w.cell? ⟨g, 81, none⟩ = some (.int .i64 (sz : Int)) := hd.cell 81 (show 81 < 82 by decide)
  clear hd
  go_enter Tryd.func70, Tryd.ntmps70
  go_wp2_with fail
  go_ret
  exact ⟨rfl, Below.refl _ _⟩
theorem block_walk (p : Addr) (w : World) :
    Calls Tryd.prog 69 #[.pointer (some p)] w fun e w' => e = .returned (.int .i64 32) ∧ Below w.heap.size w w' := by
  go_enter Tryd.func69, Tryd.ntmps69
  go_wp2_with fail
  go_ret
  exact ⟨rfl, Below.refl _ _⟩
end Go.Proofs.YtnehminojlocoaaDoor.PAll
namespace Go.Proofs.YtnehminojlocoaaDoor.PAll
open Go.RowKit Go.Proofs.YtnehminojlocoaaDoorW.PrintWords Go.Proofs.YtnehminojlocoaaDoorW.PrintLast Go.Proofs.YtnehminojlocoaaDoorW.PrintMore
set_option linter.unusedVariables false
set_option linter.unusedSimpArgs false
def m80 (q : Nat) : Nat → Nat → Option Value := fun k i => match k with
  | 0 => if i = 80 then some (.int .i64 (q : Int)) else none
  | _ => none
theorem dig_m80 {g : Nat} {T : TypeId} {s y z : Nat → Int} {q sz : Nat} {W : World} (h : (Dig g T s y z q sz).In W) : MemOk (bn [g]) (m80 q) W := fun k i v hv => by
  cases k with
  | zero =>
    have hv' : (if i = 80 then some (Value.int .i64 (q : Int)) else none) = some v := hv
    by_cases e : i = 80
    · rw [if_pos e] at hv'
      subst e
      rw [← hv']
      exact dig_off h
    · rw [if_neg e] at hv'
      cases hv'
  | succ k => cases hv
noncomputable def c73_14 : Code := match Tryd.f73.body with
  | some (.seq _ (.seq _ (.seq _ (.seq _ c)))) => c
  | _ => .skip
noncomputable def c73_10 : Code := match Tryd.f73.body with
  | some (.seq _ (.seq _ (.seq _ c))) => c
  | _ => .skip
set_option maxHeartbeats 8000000 in
set_option maxRecDepth 100000 in
theorem wr_14 (g T b o r c n0 sz : Nat) (A : Option Addr) (s y z x : Nat → Int) (w W : World) (a : Act) (hd : (Dig g T s y z 0 sz).In W) (hF : Fr [g] w W) (hr : r < 32) (hrc : r ≤ c) (hA0 : 0 < r → A = some ⟨b, o, none⟩) (hx : Bts b o r x W)
    (h0 : Has 97 (bn [g]) [(0, .p 0 0), (1, .v (.slice A r c)), (4, .v (.int .i64 (n0 : Int))), (5, .v .nilIface)] a) (d0 : a.defers = []) : Code.wp Tryd.prog c73_14 (bodyPost Tryd.prog Tryd.f73 fun e w' => e = .returned (.tuple #[.int .i64 (n0 : Int), .nilIface]) ∧ (Dig g T (s) y (if r = 0 then z else cpz z 0 r x) (r) sz).In w' ∧ Fr [g] w w') a W := by
  have M0 := dig_mw hd
  refine wp_seq ?_
  refine wp_seq ?_
  refine regM_seq (N := 97) (T := TT) (n := 3) (E2 := [(0, .p 0 0), (1, .v (.slice A r c)), (4, .v (.int .i64 (n0 : Int))), (5, .v .nilIface), (83, .v (.bool (decide ((r : Int) > 0))))]) tabOk h0 M0 rfl (by kernel_rfl) ⟨by kernel_rfl, by kernel_rfl, by kernel_rfl, by kernel_rfl, by kernel_rfl, trivial⟩ (fun a1 h1 d1 => ?_)
  show Code.wp _ _ _ _ _
  replace d1 := d1.trans d0
  clear h0 d0
  by_cases hr0 : r = 0
  · subst hr0
    refine wp_cond_false ((h1.2 83 _ rfl).trans (congrArg Value.bool (decide_eq_false (by omega)))) ?_
    refine wp_skip ?_
    show Code.wp _ _ _ _ _
    refine wp_ret ?_
    refine ⟨d1, _, results_tmp2 rfl _ _ _, ?_, hd, hF⟩
    show Ending.returned (.tuple #[a1.eval (.tmp 4), a1.eval (.tmp 5)]) = _
    rw [h1.2 4 _ rfl, h1.2 5 _ rfl]
    rfl
  · have hrp : 0 < r := by omega
    obtain rfl := hA0 hrp
    refine wp_cond_true ((h1.2 83 _ rfl).trans (congrArg Value.bool (decide_eq_true (by omega)))) ?_
    let SS : World → Prop := MemOk (bn [g]) (m80 0)
    have hSM : ∀ W, SS W → MemOk (bn [g]) (m80 0) W := fun _ h => h
    refine start_ (S := SS) (ds := [13]) (n := 14) _ (by kernel_rfl) rfl rfl (dig_m80 (W := W.drew) hd) (fun hS0 => ?_)
    refine segP (S := SS) (T := TT) (M := m80 0) (N := 97) tabOk hSM (fun _ _ _ _ hd h => And.intro (hd.trans (And.left h)) (And.right h)) hS0 [0, 1, 2, 3, 4, 5, 6, 7, 8, 9] 4 [(0, .p 0 0), (1, .v (.slice (some ⟨b, o, none⟩) r c)), (4, .v (.int .i64 (n0 : Int))), (5, .v .nilIface), (84, .p 0 0), (92, .s 0 48 32 32), (93, .v (.slice (some ⟨b, o, none⟩) r c))] h1 (by kernel_rfl) (by kernel_rfl) ⟨by kernel_rfl, by kernel_rfl, by kernel_rfl, by kernel_rfl, by kernel_rfl, by kernel_rfl, by kernel_rfl, trivial⟩ (fun a2 h2 d2 => ?_)
    refine stepY (S := SS) (N := 97) (j := 10) (d := 94) (t1 := 22) (t2 := 22) (sx := .s 0 48 32 32) (sy := .v (.slice (some ⟨b, o, none⟩) r c)) (v := goInt (r : Int)) h2 (by kernel_rfl) (by kernel_rfl) (fun W' => (Dig g T s y (cpz z 0 r x) 0 sz).In W' ∧ Fr [g] W W') (fun W' hh => dig_m80 hh.1) (fun ty => ?_) (fun a3 W3 h3 d3 hR => ?_)
    · obtain ⟨W', e1, e2, e3⟩ := dig_cp (W := W.drew) hd b o r c 0 32 32 r x (Nat.min_eq_left (by omega)).symm (by omega) hx ty
      exact ⟨W', e1, e2, e3⟩
    obtain ⟨hd3, G3⟩ := hR
    have hS3 : SS W3 := dig_m80 hd3
    refine segP (S := SS) (T := TT) (M := m80 0) (N := 97) tabOk hSM (fun _ _ _ _ hd h => And.intro (hd.trans (And.left h)) (And.right h)) hS3 [11, 12] 1 [(0, .p 0 0), (1, .v (.slice (some ⟨b, o, none⟩) r c)), (4, .v (.int .i64 (n0 : Int))), (5, .v .nilIface), (94, .v (goInt (r : Int))), (96, .p 0 80)] h3 (by kernel_rfl) (by kernel_rfl) ⟨by kernel_rfl, by kernel_rfl, by kernel_rfl, by kernel_rfl, by kernel_rfl, by kernel_rfl, trivial⟩ (fun a4 h4 d4 => ?_)
    refine lastS (S := SS) (T := TT) (N := 97) (n := 13) (k := 0) (i := 80) (u := .int .i64 (r : Int)) tabOk h4 (by kernel_rfl) (by kernel_rfl) ⟨_, hd3.cell 80 (show 80 < 82 by decide)⟩ (hd3.free 80) ?_
    have hd5 := dig_put hd3 r
    have G5 := (hF.trans G3).set ⟨g, 80, none⟩ (by simp) (.int .i64 (r : Int))
    replace d4 := d4.trans (d3.trans (d2.trans d1))
    show Code.wp _ _ _ _ _
    rw [if_neg hr0]
    refine wp_ret ?_
    refine ⟨d4, _, results_tmp2 rfl _ _ _, ?_, hd5, G5⟩
    show Ending.returned (.tuple #[a4.eval (.tmp 4), a4.eval (.tmp 5)]) = _
    rw [h4.2 4 _ rfl, h4.2 5 _ rfl]
    rfl
set_option maxHeartbeats 8000000 in
set_option maxRecDepth 100000 in
theorem wr_10 (g T b o n c n0 sz : Nat) (A : Option Addr) (s y z x : Nat → Int) (w W : World) (a : Act) (hbg : 0 < n → b ≠ g) (hd : (Dig g T s y z 0 sz).In W) (hF : Fr [g] w W) (hn : n < 9223372036854775808) (hnc : n ≤ c) (hA0 : 0 < n → A = some ⟨b, o, none⟩) (hx : Bts b o n x W)
    (h0 : Has 97 (bn [g]) [(0, .p 0 0), (1, .v (.slice A n c)), (4, .v (.int .i64 (n0 : Int))), (5, .v .nilIface)] a) (d0 : a.defers = []) : Code.wp Tryd.prog c73_10 (bodyPost Tryd.prog Tryd.f73 fun e w' => e = .returned (.tuple #[.int .i64 (n0 : Int), .nilIface]) ∧ (Dig g T (updN (n / 32) s x) y (if n % 32 = 0 then z else cpz z 0 (n % 32) (fun i => x (n / 32 * 32 + i))) (n % 32) sz).In w' ∧ Fr [g] w w') a W := by
  have M0 := dig_mw hd
  refine wp_seq ?_
  refine wp_seq ?_
  refine regM_seq (N := 97) (T := TT) (n := 4) (E2 := [(0, .p 0 0), (1, .v (.slice A n c)), (4, .v (.int .i64 (n0 : Int))), (5, .v .nilIface), (7, .v (.int .i64 (Go.bits .and .i64 (n : Int) (-32))))]) tabOk h0 M0 rfl (by kernel_rfl) ⟨by kernel_rfl, by kernel_rfl, by kernel_rfl, by kernel_rfl, by kernel_rfl, trivial⟩ (fun a1 h1 d1 => ?_)
  show Code.wp _ _ _ _ _
  replace d1 := d1.trans d0
  clear h0 d0
  rw [andm32 n hn] at h1
  refine wp_seq ?_
  refine regM_seq (N := 97) (T := TT) (n := 2) (E2 := [(0, .p 0 0), (1, .v (.slice A n c)), (4, .v (.int .i64 (n0 : Int))), (5, .v .nilIface), (7, .v (.int .i64 ((n / 32 * 32 : Nat) : Int))), (70, .v (.bool (decide (((n / 32 * 32 : Nat) : Int) > 0))))]) tabOk h1 M0 rfl (by kernel_rfl) ⟨by kernel_rfl, by kernel_rfl, by kernel_rfl, by kernel_rfl, by kernel_rfl, by kernel_rfl, trivial⟩ (fun a2 h2 d2 => ?_)
  show Code.wp _ _ _ _ _
  replace d2 := d2.trans d1
  clear h1 d1
  rw [show n % 32 = n - n / 32 * 32 by omega]
  by_cases h32 : 32 ≤ n
  · have hA1 := hA0 (by omega)
    subst hA1
    refine wp_cond_true ((h2.2 70 _ rfl).trans (congrArg Value.bool (decide_eq_true (by omega)))) ?_
    refine wp_seq ?_
    let SS : World → Prop := fun _ => True
    have hSM : ∀ W, SS W → MemOk (bn [g]) (fun _ _ => none) W := fun _ _ _ _ _ h => by cases h
    refine start_ (S := SS) (ds := [6]) (n := 7) _ (by kernel_rfl) rfl rfl trivial (fun hS0 => ?_)
    refine segP (S := SS) (T := TT) (M := fun _ _ => none) (N := 97) tabOk hSM (fun _ _ _ _ hd h => And.intro (hd.trans (And.left h)) (And.right h)) hS0 [0, 1, 2, 3, 4] 2 [(0, .p 0 0), (1, .v (.slice (some ⟨b, o, none⟩) n c)), (4, .v (.int .i64 (n0 : Int))), (5, .v .nilIface), (7, .v (.int .i64 ((n / 32 * 32 : Nat) : Int))), (73, .p 0 0), (74, .v (.slice (some ⟨b, o, none⟩) n c)), (75, .v (.int .i64 ((n / 32 * 32 : Nat) : Int)))] h2 (by kernel_rfl) (by kernel_rfl) ⟨by kernel_rfl, by kernel_rfl, by kernel_rfl, by kernel_rfl, by kernel_rfl, by kernel_rfl, by kernel_rfl, by kernel_rfl, trivial⟩ (fun a3 h3 d3 => ?_)
    refine segV (S := SS) (N := 97) (i := 5) (d := 76) (s := .v (.slice (some ⟨b, o, none⟩) (n / 32 * 32) c)) (fun _ _ _ _ hd h => And.intro (hd.trans (And.left h)) (And.right h)) hS0 h3 rfl rfl rfl (by decide) (by kernel_rfl) (fun W' _ => op_slice rfl ?_) (fun a4 h4 d4 => ?_)
    · show (Instr.sliceAt _ (a3.eval (.tmp 74)) none (some (a3.eval (.tmp 75))) none).run _ _ = _
      rw [h3.2 74 _ rfl, h3.2 75 _ rfl]
      exact sl_to W' b o n c (n / 32 * 32) (by omega) (by omega)
    have P2 := update_walk g T (tl 82 (dgr y z 0 sz)) s b o (n / 32 * 32) c x W.drew (dig_st hd) (Or.inl (hbg (by omega))) (by omega) (fun i hi => hx i (by omega))
    rw [show n / 32 * 32 / 32 = n / 32 by omega] at P2
    refine lastC (S := SS) (N := 97) (j := 6) (d := 77) (f := 40) (args := [.p 0 0, .v (.slice (some ⟨b, o, none⟩) (n / 32 * 32) c)]) h4 (by kernel_rfl) (by kernel_rfl) Tryd.func40 rfl rfl (fun v W' => (Dig g T (updN (n / 32) s x) y z 0 sz).In W' ∧ Fr [g] W W') (P2.mono fun e W' hh => ⟨_, hh.1, st_dig hh.2.1, hh.2.2⟩) (fun a5 v5 W5 h5 d5 hR => ?_)
    obtain ⟨hd5, G5⟩ := hR
    have h6 := sub_ok (E := [(0, .p 0 0), (1, .v (.slice (some ⟨b, o, none⟩) n c)), (4, .v (.int .i64 (n0 : Int))), (5, .v .nilIface), (7, .v (.int .i64 ((n / 32 * 32 : Nat) : Int)))]) h5 ⟨by kernel_rfl, by kernel_rfl, by kernel_rfl, by kernel_rfl, by kernel_rfl, trivial⟩
    replace d5 := d5.trans (d4.trans (d3.trans d2))
    have hx5 : Bts b o n x W5 := fun i hi => G5.cell (hx i hi) (by simp; exact hbg (by omega))
    have F5 := hF.trans G5
    clear h2 h3 h4 h5 d2 d3 d4 P2 G5 M0 hd hx hF
    show Code.wp _ _ _ _ _
    have M5 := dig_mw hd5
    refine wp_region ?_
    refine ops_ (N := 97) (M := bm [Dig g T (updN (n / 32) s x) y z 0 sz]) (T := TT) (E' := (79, .v (.int .i64 ((n / 32 * 32 : Nat) : Int))) :: (78, .v (.slice (some ⟨b, o, none⟩) n c)) :: [(0, .p 0 0), (1, .v (.slice (some ⟨b, o, none⟩) n c)), (4, .v (.int .i64 (n0 : Int))), (5, .v .nilIface), (7, .v (.int .i64 ((n / 32 * 32 : Nat) : Int)))]) tabOk M5.mem [2, 3] [0, 1] (by kernel_rfl) h6 (fun a7 h7 d7 => ?_)
    obtain ⟨A', hsl, hA'⟩ := sl_from W5 b o n c (n / 32 * 32) (by omega) hnc
    refine given_ops (N := 97) (i := 2) (v := .slice A' (n - n / 32 * 32) (c - n / 32 * 32)) (l := [3]) rfl rfl rfl (by decide) h7 (op_slice rfl ?_) (fun a8 h8 d8 => ?_)
    · show (Instr.sliceAt _ (a7.eval (.tmp 78)) (some (a7.eval (.tmp 79))) none none).run _ _ = _
      rw [h7.2 78 _ rfl, h7.2 79 _ rfl]
      exact hsl
    refine ops_ (N := 97) (M := bm [Dig g T (updN (n / 32) s x) y z 0 sz]) (T := TT) (E' := (1, .v (.slice A' (n - n / 32 * 32) (c - n / 32 * 32))) :: (80, .v (.slice A' (n - n / 32 * 32) (c - n / 32 * 32))) :: (79, .v (.int .i64 ((n / 32 * 32 : Nat) : Int))) :: (78, .v (.slice (some ⟨b, o, none⟩) n c)) :: [(0, .p 0 0), (1, .v (.slice (some ⟨b, o, none⟩) n c)), (4, .v (.int .i64 (n0 : Int))), (5, .v .nilIface), (7, .v (.int .i64 ((n / 32 * 32 : Nat) : Int)))]) tabOk M5.mem [] [3] (by kernel_rfl) h8 (fun a9 h9 d9 => ?_)
    have h10 := sub_ok (E := [(0, .p 0 0), (1, .v (.slice A' (n - n / 32 * 32) (c - n / 32 * 32))), (4, .v (.int .i64 (n0 : Int))), (5, .v .nilIface)]) h9 ⟨by kernel_rfl, by kernel_rfl, by kernel_rfl, by kernel_rfl, trivial⟩
    show Code.wp _ _ _ _ _
    exact wr_14 g T b (o + n / 32 * 32) (n - n / 32 * 32) (c - n / 32 * 32) n0 sz A' (updN (n / 32) s x) y z (fun i => x (n / 32 * 32 + i)) w W5 a9 hd5 F5 (by omega) (by omega) (fun hp => hA' (by omega)) (hx5.from (n / 32 * 32) (n - n / 32 * 32) (by omega)) h10 (d9.trans (d8.trans (d7.trans d5)))
  · refine wp_cond_false ((h2.2 70 _ rfl).trans (congrArg Value.bool (decide_eq_false (by omega)))) ?_
    refine wp_skip ?_
    show Code.wp _ _ _ _ _
    have h7 := sub_ok (E := [(0, .p 0 0), (1, .v (.slice A n c)), (4, .v (.int .i64 (n0 : Int))), (5, .v .nilIface)]) h2 ⟨by kernel_rfl, by kernel_rfl, by kernel_rfl, by kernel_rfl, trivial⟩
    have e0 : n / 32 = 0 := by omega
    rw [e0, Nat.zero_mul, Nat.sub_zero]
    exact wr_14 g T b o n c n0 sz A s y z (fun i => x (0 + i)) w W a2 hd hF (by omega) hnc hA0 (fun i hi => show W.cell? _ = some (Value.int .u8 (x (0 + i))) from by rw [Nat.zero_add]; exact hx i hi) h7 d2
theorem copy_none (w : World) (ty : TypeId) (a : Addr) (A : Option Addr) (d e c : Nat) : (Builtin.copy_ #[22, 22] ty #[.slice (some a) d e, .slice A 0 c]).run Tryd.prog w = .ok (goInt 0) w := by
  have hs : ((Tryd.prog.info? 5).map (·.size)).isSome = true := by kernel_rfl
  cases hq : Tryd.prog.info? 5 with
  | none => simp [hq] at hs
  | some i => cases A <;> simp [Builtin.copy_, run_underlying Tryd.underlying22, Builtin.lenOf, Builtin.firstCells, Go.sizeOf, typeInfo, hq, storeCells, loadCells, loadCellsFrom]
/-- The state, the buffer, the offset behind a write of n octets x. -/
def wrS (s z : Nat → Int) (q : Nat) (x : Nat → Int) (n : Nat) : Nat → Int := if q = 0 then updN (n / 32) s x else if n < 32 - q then s else updN ((n - (32 - q)) / 32) (updN 1 s (cpz z q (32 - q) x)) (fun i => x (32 - q + i))
def wrZ (z : Nat → Int) (q : Nat) (x : Nat → Int) (n : Nat) : Nat → Int := if q = 0 then (if n % 32 = 0 then z else cpz z 0 (n % 32) (fun i => x (n / 32 * 32 + i))) else if n < 32 - q then cpz z q n x else (if (n - (32 - q)) % 32 = 0 then cpz z q (32 - q) x else cpz (cpz z q (32 - q) x) 0 ((n - (32 - q)) % 32) (fun i => x (32 - q + ((n - (32 - q)) / 32 * 32 + i))))
def wrQ (q n : Nat) : Nat := if q = 0 then n % 32 else if n < 32 - q then q + n else (n - (32 - q)) % 32
theorem w64q (k : Nat) (h : k < 9223372036854775808) (m : Int) (e : m = (k : Int)) : IntKind.i64.wrap m = ((k : Nat) : Int) := by
  subst e
  rw [i64_w]
  unfold wrap64
  omega
set_option maxHeartbeats 8000000 in
set_option maxRecDepth 100000 in
theorem write_walk (g T b o n c sz q : Nat) (A : Option Addr) (s y z x : Nat → Int) (w : World) (hbg : 0 < n → b ≠ g) (hd : (Dig g T s y z q sz).In w) (hq : q < 32) (hn : n < 4611686018427387904) (hnc : n ≤ c) (hA0 : 0 < n → A = some ⟨b, o, none⟩) (hx : Bts b o n x w) :
    Calls Tryd.prog 73 #[.pointer (some ⟨g, 0, none⟩), .slice A n c] w fun e w' => e = .returned (.tuple #[.int .i64 (n : Int), .nilIface]) ∧ (Dig g T (wrS s z q x n) y (wrZ z q x n) (wrQ q n) sz).In w' ∧ Fr [g] w w' := by
  refine calls_of_wp Tryd.func73 rfl ?_
  have h0 : Has 97 (bn [g]) [(0, .p 0 0), (1, .v (.slice A n c))] ⟨#[.pointer (some ⟨g, 0, none⟩), .slice A n c] ++ Array.replicate 95 undef, []⟩ := has_two (β := bn [g]) (.p 0 0) (.v (.slice A n c)) 95
  have M0 := dig_mw hd
  have F0 := Fr.refl [g] w
  have d0 : (⟨#[.pointer (some ⟨g, 0, none⟩), .slice A n c] ++ Array.replicate 95 undef, []⟩ : Act).defers = [] := rfl
  refine wp_seq ?_
  refine regM_seq (N := 97) (T := TT) (n := 2) (E2 := [(0, .p 0 0), (1, .v (.slice A n c)), (5, .v .nilIface)]) tabOk h0 M0 rfl (by kernel_rfl) ⟨by kernel_rfl, by kernel_rfl, by kernel_rfl, trivial⟩ (fun a1 h1 d1 => ?_)
  show Code.wp _ _ _ _ _
  replace d1 := d1.trans d0
  clear h0 d0
  refine wp_seq ?_
  refine regM_seq (N := 97) (T := TT) (n := 3) (E2 := [(0, .p 0 0), (1, .v (.slice A n c)), (4, .v (.int .i64 (n : Int))), (5, .v .nilIface)]) tabOk h1 M0 rfl (by kernel_rfl) ⟨by kernel_rfl, by kernel_rfl, by kernel_rfl, by kernel_rfl, trivial⟩ (fun a2 h2 d2 => ?_)
  show Code.wp _ _ _ _ _
  replace d2 := d2.trans d1
  clear h1 d1
  refine wp_seq ?_
  refine wp_seq ?_
  refine regM_seq (N := 97) (T := TT) (n := 5) (E2 := [(0, .p 0 0), (1, .v (.slice A n c)), (4, .v (.int .i64 (n : Int))), (5, .v .nilIface), (14, .v (.bool (decide ((q : Int) > 0))))]) tabOk h2 M0 rfl (by kernel_rfl) ⟨by kernel_rfl, by kernel_rfl, by kernel_rfl, by kernel_rfl, by kernel_rfl, trivial⟩ (fun a3 h3 d3 => ?_)
  show Code.wp _ _ _ _ _
  replace d3 := d3.trans d2
  clear h2 d2
  by_cases hq0 : q = 0
  · subst hq0
    refine wp_cond_false ((h3.2 14 _ rfl).trans (congrArg Value.bool (decide_eq_false (by omega)))) ?_
    refine wp_skip ?_
    show Code.wp _ _ _ _ _
    exact wr_10 g T b o n c n sz A s y z x w w _ hbg hd F0 (by omega) hnc hA0 hx (sub_ok (E := [(0, .p 0 0), (1, .v (.slice A n c)), (4, .v (.int .i64 (n : Int))), (5, .v .nilIface)]) h3 ⟨by kernel_rfl, by kernel_rfl, by kernel_rfl, by kernel_rfl, trivial⟩) d3
  refine wp_cond_true ((h3.2 14 _ rfl).trans (congrArg Value.bool (decide_eq_true (by omega)))) ?_
  refine wp_seq ?_
  refine regM_seq (N := 97) (T := TT) (n := 6) (E2 := [(0, .p 0 0), (1, .v (.slice A n c)), (4, .v (.int .i64 (n : Int))), (5, .v .nilIface), (6, .v (.int .i64 (IntKind.i64.wrap (32 - (q : Int)))))]) tabOk h3 M0 rfl (by kernel_rfl) ⟨by kernel_rfl, by kernel_rfl, by kernel_rfl, by kernel_rfl, by kernel_rfl, trivial⟩ (fun a4 h4 d4 => ?_)
  show Code.wp _ _ _ _ _
  replace d4 := d4.trans d3
  clear h3 d3
  rw [w64q (32 - q) (by omega) _ (by omega)] at h4
  refine wp_seq ?_
  refine wp_seq ?_
  refine regM_seq (N := 97) (T := TT) (n := 3) (E2 := [(0, .p 0 0), (1, .v (.slice A n c)), (4, .v (.int .i64 (n : Int))), (5, .v .nilIface), (6, .v (.int .i64 ((32 - q : Nat) : Int))), (22, .v (.bool (decide ((n : Int) < ((32 - q : Nat) : Int)))))]) tabOk h4 M0 rfl (by kernel_rfl) ⟨by kernel_rfl, by kernel_rfl, by kernel_rfl, by kernel_rfl, by kernel_rfl, by kernel_rfl, trivial⟩ (fun a5 h5 d5 => ?_)
  show Code.wp _ _ _ _ _
  replace d5 := d5.trans d4
  clear h4 d4
  by_cases hnq : n < 32 - q
  · refine wp_cond_true ((h5.2 22 _ rfl).trans (congrArg Value.bool (decide_eq_true (by omega)))) ?_
    refine wp_seq ?_
    let SS : World → Prop := MemOk (bn [g]) (m80 q)
    have hSM : ∀ W, SS W → MemOk (bn [g]) (m80 q) W := fun _ h => h
    refine start_ (S := SS) (ds := [17]) (n := 18) _ (by kernel_rfl) rfl rfl (dig_m80 (W := w.drew) hd) (fun hS0 => ?_)
    refine segP (S := SS) (T := TT) (M := m80 q) (N := 97) tabOk hSM (fun _ _ _ _ hd h => And.intro (hd.trans (And.left h)) (And.right h)) hS0 [0, 1, 2, 3, 4, 5, 6, 7, 8, 9, 10] 7 [(0, .p 0 0), (1, .v (.slice A n c)), (4, .v (.int .i64 (n : Int))), (5, .v .nilIface), (23, .p 0 0), (26, .v (.int .i64 (q : Int))), (29, .p 0 48), (33, .v (.int .i64 (q : Int)))] h5 (by kernel_rfl) (by kernel_rfl) ⟨by kernel_rfl, by kernel_rfl, by kernel_rfl, by kernel_rfl, by kernel_rfl, by kernel_rfl, by kernel_rfl, by kernel_rfl, trivial⟩ (fun a6 h6 d6 => ?_)
    refine segV (S := SS) (N := 97) (i := 11) (d := 34) (s := .v (.slice (some ⟨g, 48 + q, none⟩) (32 - q) (32 - q))) (fun _ _ _ _ hd h => And.intro (hd.trans (And.left h)) (And.right h)) hS0 h6 rfl rfl rfl (by decide) (by kernel_rfl) (fun W' _ => op_slice rfl ?_) (fun a7 h7 d7 => ?_)
    · show (Instr.sliceAt _ (a6.eval (.tmp 29)) (some (a6.eval (.tmp 33))) none none).run _ _ = _
      rw [h6.2 29 _ rfl, h6.2 33 _ rfl]
      exact arr_from W' g 48 q hq
    refine segP (S := SS) (T := TT) (M := m80 q) (N := 97) tabOk hSM (fun _ _ _ _ hd h => And.intro (hd.trans (And.left h)) (And.right h)) hS0 [12] 5 [(0, .p 0 0), (1, .v (.slice A n c)), (4, .v (.int .i64 (n : Int))), (5, .v .nilIface), (23, .p 0 0), (26, .v (.int .i64 (q : Int))), (34, .v (.slice (some ⟨g, 48 + q, none⟩) (32 - q) (32 - q))), (35, .v (.slice A n c))] h7 (by kernel_rfl) (by kernel_rfl) ⟨by kernel_rfl, by kernel_rfl, by kernel_rfl, by kernel_rfl, by kernel_rfl, by kernel_rfl, by kernel_rfl, by kernel_rfl, trivial⟩ (fun a8 h8 d8 => ?_)
    have hcp : ∀ ty, ∃ W', (Builtin.copy_ #[22, 22] ty #[.slice (some ⟨g, 48 + q, none⟩) (32 - q) (32 - q), .slice A n c]).run Tryd.prog w.drew = .ok (goInt (n : Int)) W' ∧ (Dig g T s y (cpz z q n x) q sz).In W' ∧ Fr [g] w W' := fun ty => by
      by_cases hn0 : n = 0
      · subst hn0
        refine ⟨w.drew, copy_none _ ty _ A _ _ c, ?_, Fr.refl _ _⟩
        have e : cpz z q 0 x = z := by
          funext i
          unfold cpz
          rw [if_neg (by omega)]
        rw [e]
        exact hd
      · obtain rfl := hA0 (by omega)
        obtain ⟨W', e1, e2, e3⟩ := dig_cp (W := w.drew) hd b o n c q (32 - q) (32 - q) n x (Nat.min_eq_left (by omega)).symm (by omega) hx ty
        exact ⟨W', e1, e2, e3⟩
    refine stepY (S := SS) (N := 97) (j := 13) (d := 36) (t1 := 22) (t2 := 22) (sx := .v (.slice (some ⟨g, 48 + q, none⟩) (32 - q) (32 - q))) (sy := .v (.slice A n c)) (v := goInt (n : Int)) h8 (by kernel_rfl) (by kernel_rfl) (fun W' => (Dig g T s y (cpz z q n x) q sz).In W' ∧ Fr [g] w W') (fun W' hh => dig_m80 hh.1) hcp (fun a9 W9 h9 d9 hR => ?_)
    obtain ⟨hd9, G9⟩ := hR
    have hS9 : SS W9 := dig_m80 hd9
    refine segP (S := SS) (T := TT) (M := m80 q) (N := 97) tabOk hSM (fun _ _ _ _ hd h => And.intro (hd.trans (And.left h)) (And.right h)) hS9 [14, 15, 16] 1 [(0, .p 0 0), (1, .v (.slice A n c)), (4, .v (.int .i64 (n : Int))), (5, .v .nilIface), (37, .v (.int .i64 (IntKind.i64.wrap ((q : Int) + (n : Int))))), (39, .p 0 80)] h9 (by kernel_rfl) (by kernel_rfl) ⟨by kernel_rfl, by kernel_rfl, by kernel_rfl, by kernel_rfl, by kernel_rfl, by kernel_rfl, trivial⟩ (fun a10 h10 d10 => ?_)
    rw [w64q (q + n) (by omega) _ (by omega)] at h10
    refine lastS (S := SS) (T := TT) (N := 97) (n := 17) (k := 0) (i := 80) (u := .int .i64 ((q + n : Nat) : Int)) tabOk h10 (by kernel_rfl) (by kernel_rfl) ⟨_, hd9.cell 80 (show 80 < 82 by decide)⟩ (hd9.free 80) ?_
    have hd11 := dig_put hd9 (q + n)
    have G11 := G9.set ⟨g, 80, none⟩ (by simp) (.int .i64 ((q + n : Nat) : Int))
    replace d10 := d10.trans (d9.trans (d8.trans (d7.trans (d6.trans d5))))
    show Code.wp _ _ _ _ _
    unfold wrS wrZ wrQ
    simp only [if_neg hq0, if_pos hnq]
    refine wp_ret ?_
    refine ⟨d10, _, results_tmp2 rfl _ _ _, ?_, hd11, G11⟩
    show Ending.returned (.tuple #[a10.eval (.tmp 4), a10.eval (.tmp 5)]) = _
    rw [h10.2 4 _ rfl, h10.2 5 _ rfl]
    rfl

  refine wp_cond_false ((h5.2 22 _ rfl).trans (congrArg Value.bool (decide_eq_false (by omega)))) ?_
  refine wp_skip ?_
  show Code.wp _ _ _ _ _
  obtain rfl := hA0 (by omega)
  refine wp_seq ?_
  let SS : World → Prop := MemOk (bn [g]) (m80 q)
  have hSM : ∀ W, SS W → MemOk (bn [g]) (m80 q) W := fun _ h => h
  refine start_ (S := SS) (ds := []) (n := 12) _ (by kernel_rfl) rfl rfl (dig_m80 (W := w.drew) hd) (fun hS0 => ?_)
  refine segP (S := SS) (T := TT) (M := m80 q) (N := 97) tabOk hSM (fun _ _ _ _ hd h => And.intro (hd.trans (And.left h)) (And.right h)) hS0 [0, 1, 2, 3, 4, 5, 6] 5 [(0, .p 0 0), (1, .v (.slice (some ⟨b, o, none⟩) n c)), (4, .v (.int .i64 (n : Int))), (5, .v .nilIface), (6, .v (.int .i64 ((32 - q : Nat) : Int))), (42, .p 0 48), (46, .v (.int .i64 (q : Int)))] h5 (by kernel_rfl) (by kernel_rfl) ⟨by kernel_rfl, by kernel_rfl, by kernel_rfl, by kernel_rfl, by kernel_rfl, by kernel_rfl, by kernel_rfl, trivial⟩ (fun a6 h6 d6 => ?_)
  refine segV (S := SS) (N := 97) (i := 7) (d := 47) (s := .v (.slice (some ⟨g, 48 + q, none⟩) (32 - q) (32 - q))) (fun _ _ _ _ hd h => And.intro (hd.trans (And.left h)) (And.right h)) hS0 h6 rfl rfl rfl (by decide) (by kernel_rfl) (fun W' _ => op_slice rfl ?_) (fun a7 h7 d7 => ?_)
  · show (Instr.sliceAt _ (a6.eval (.tmp 42)) (some (a6.eval (.tmp 46))) none none).run _ _ = _
    rw [h6.2 42 _ rfl, h6.2 46 _ rfl]
    exact arr_from W' g 48 q hq
  refine segP (S := SS) (T := TT) (M := m80 q) (N := 97) tabOk hSM (fun _ _ _ _ hd h => And.intro (hd.trans (And.left h)) (And.right h)) hS0 [8, 9] 2 [(0, .p 0 0), (1, .v (.slice (some ⟨b, o, none⟩) n c)), (4, .v (.int .i64 (n : Int))), (5, .v .nilIface), (6, .v (.int .i64 ((32 - q : Nat) : Int))), (47, .v (.slice (some ⟨g, 48 + q, none⟩) (32 - q) (32 - q))), (48, .v (.slice (some ⟨b, o, none⟩) n c)), (49, .v (.int .i64 ((32 - q : Nat) : Int)))] h7 (by kernel_rfl) (by kernel_rfl) ⟨by kernel_rfl, by kernel_rfl, by kernel_rfl, by kernel_rfl, by kernel_rfl, by kernel_rfl, by kernel_rfl, by kernel_rfl, trivial⟩ (fun a8 h8 d8 => ?_)
  refine segV (S := SS) (N := 97) (i := 10) (d := 50) (s := .v (.slice (some ⟨b, o, none⟩) (32 - q) c)) (fun _ _ _ _ hd h => And.intro (hd.trans (And.left h)) (And.right h)) hS0 h8 rfl rfl rfl (by decide) (by kernel_rfl) (fun W' _ => op_slice rfl ?_) (fun a9 h9 d9 => ?_)
  · show (Instr.sliceAt _ (a8.eval (.tmp 48)) none (some (a8.eval (.tmp 49))) none).run _ _ = _
    rw [h8.2 48 _ rfl, h8.2 49 _ rfl]
    exact sl_to W' b o n c (32 - q) (by omega) (by omega)
  refine stepY (S := SS) (N := 97) (j := 11) (d := 51) (t1 := 22) (t2 := 22) (sx := .v (.slice (some ⟨g, 48 + q, none⟩) (32 - q) (32 - q))) (sy := .v (.slice (some ⟨b, o, none⟩) (32 - q) c)) (v := goInt ((32 - q : Nat) : Int)) h9 (by kernel_rfl) (by kernel_rfl) (fun W' => (Dig g T s y (cpz z q (32 - q) x) q sz).In W' ∧ Fr [g] w W') (fun W' hh => dig_m80 hh.1) (fun ty => ?_) (fun a10 W10 h10 d10 hR => ?_)
  · obtain ⟨W', e1, e2, e3⟩ := dig_cp (W := w.drew) hd b o (32 - q) c q (32 - q) (32 - q) (32 - q) x (Nat.min_self _).symm (by omega) (fun i hi => hx i (by omega)) ty
    exact ⟨W', e1, e2, e3⟩
  obtain ⟨hd10, G10⟩ := hR
  refine segE (by kernel_rfl) ?_
  show Code.wp _ _ _ _ _
  have h11 := sub_ok (E := [(0, .p 0 0), (1, .v (.slice (some ⟨b, o, none⟩) n c)), (4, .v (.int .i64 (n : Int))), (5, .v .nilIface), (6, .v (.int .i64 ((32 - q : Nat) : Int)))]) h10 ⟨by kernel_rfl, by kernel_rfl, by kernel_rfl, by kernel_rfl, by kernel_rfl, trivial⟩
  have d11 := d10.trans (d9.trans (d8.trans (d7.trans (d6.trans d5))))
  clear h6 h7 h8 h9 h10 d5 d6 d7 d8 d9 d10 h5 hS0
  refine wp_seq ?_
  have M10 := dig_mw hd10
  have P2 := update_walk g T (tl 82 (dgr y (cpz z q (32 - q) x) q sz)) s g 48 32 32 (cpz z q (32 - q) x) W10.drew (dig_st hd10) (Or.inr (by decide)) (Nat.le_refl _) (dig_buf hd10)
  refine reg_call_last (N := 97) (T := TT) (M := bm [Dig g T s y (cpz z q (32 - q) x) q sz]) (j := 7) (l1 := [0, 1, 2, 3, 4, 5, 6]) (f := 40) (d := 59) (args := [.p 0 0, .s 0 48 32 32]) (E2 := [(0, .p 0 0), (1, .v (.slice (some ⟨b, o, none⟩) n c)), (4, .v (.int .i64 (n : Int))), (5, .v .nilIface), (6, .v (.int .i64 ((32 - q : Nat) : Int)))]) (by kernel_rfl) tabOk h11 M10.mem rfl (by kernel_rfl) (by kernel_rfl) Tryd.func40 rfl rfl (fun v W' => (Dig g T (updN 1 s (cpz z q (32 - q) x)) y (cpz z q (32 - q) x) q sz).In W' ∧ Fr [g] W10 W') (P2.mono fun e W' hh => ⟨_, hh.1, st_dig hh.2.1, hh.2.2⟩) ⟨by kernel_rfl, by kernel_rfl, by kernel_rfl, by kernel_rfl, by kernel_rfl, trivial⟩ rfl (fun _ _ _ _ hd h => And.intro (hd.trans (And.left h)) (And.right h)) (fun a12 v12 W12 h12 d12 hR => ?_)
  obtain ⟨hd12, G12⟩ := hR
  have F12 := G10.trans G12
  have hx12 : Bts b o n x W12 := fun i hi => F12.cell (hx i hi) (by simp; exact hbg (by omega))
  replace h12 := sub_ok (E := [(0, .p 0 0), (1, .v (.slice (some ⟨b, o, none⟩) n c)), (4, .v (.int .i64 (n : Int))), (5, .v .nilIface), (6, .v (.int .i64 ((32 - q : Nat) : Int)))]) h12 ⟨by kernel_rfl, by kernel_rfl, by kernel_rfl, by kernel_rfl, by kernel_rfl, trivial⟩
  replace d12 := d12.trans d11
  clear h11 d11 P2 G10 G12 hd10 M10 hx
  show Code.wp _ _ _ _ _
  refine wp_seq ?_
  have M12 := dig_mw hd12
  refine wp_region ?_
  refine ops_ (N := 97) (M := bm [Dig g T (updN 1 s (cpz z q (32 - q) x)) y (cpz z q (32 - q) x) q sz]) (T := TT) (E' := (61, .v (.int .i64 ((32 - q : Nat) : Int))) :: (60, .v (.slice (some ⟨b, o, none⟩) n c)) :: [(0, .p 0 0), (1, .v (.slice (some ⟨b, o, none⟩) n c)), (4, .v (.int .i64 (n : Int))), (5, .v .nilIface), (6, .v (.int .i64 ((32 - q : Nat) : Int)))]) tabOk M12.mem [2, 3] [0, 1] (by kernel_rfl) h12 (fun a13 h13 d13 => ?_)
  obtain ⟨A', hsl, hA'⟩ := sl_from W12 b o n c (32 - q) (by omega) hnc
  refine given_ops (N := 97) (i := 2) (v := .slice A' (n - (32 - q)) (c - (32 - q))) (l := [3]) rfl rfl rfl (by decide) h13 (op_slice rfl ?_) (fun a14 h14 d14 => ?_)
  · show (Instr.sliceAt _ (a13.eval (.tmp 60)) (some (a13.eval (.tmp 61))) none none).run _ _ = _
    rw [h13.2 60 _ rfl, h13.2 61 _ rfl]
    exact hsl
  refine ops_ (N := 97) (M := bm [Dig g T (updN 1 s (cpz z q (32 - q) x)) y (cpz z q (32 - q) x) q sz]) (T := TT) (E' := (1, .v (.slice A' (n - (32 - q)) (c - (32 - q)))) :: (62, .v (.slice A' (n - (32 - q)) (c - (32 - q)))) :: (61, .v (.int .i64 ((32 - q : Nat) : Int))) :: (60, .v (.slice (some ⟨b, o, none⟩) n c)) :: [(0, .p 0 0), (1, .v (.slice (some ⟨b, o, none⟩) n c)), (4, .v (.int .i64 (n : Int))), (5, .v .nilIface), (6, .v (.int .i64 ((32 - q : Nat) : Int)))]) tabOk M12.mem [] [3] (by kernel_rfl) h14 (fun a15 h15 d15 => ?_)
  have h16 := sub_ok (E := [(0, .p 0 0), (1, .v (.slice A' (n - (32 - q)) (c - (32 - q)))), (4, .v (.int .i64 (n : Int))), (5, .v .nilIface)]) h15 ⟨by kernel_rfl, by kernel_rfl, by kernel_rfl, by kernel_rfl, trivial⟩
  have d16 := d15.trans (d14.trans (d13.trans d12))
  show Code.wp _ _ _ _ _
  refine regM_seq_store (N := 97) (T := TT) (n := 3) (k := 0) (i := 80) (u := .int .i64 ((0 : Nat) : Int)) (E2 := [(0, .p 0 0), (1, .v (.slice A' (n - (32 - q)) (c - (32 - q)))), (4, .v (.int .i64 (n : Int))), (5, .v .nilIface)]) tabOk h16 M12 rfl (by kernel_rfl) rfl ⟨by kernel_rfl, by kernel_rfl, by kernel_rfl, by kernel_rfl, trivial⟩ (fun a17 W17 h17 d17 M17 G17 => ?_)
  have hd17 : (Dig g T (updN 1 s (cpz z q (32 - q) x)) y (cpz z q (32 - q) x) 0 sz).In W17 := by
    have e : (⟨g, T, 82, upm (stm (updN 1 s (cpz z q (32 - q) x)) (dgr y (cpz z q (32 - q) x) q sz)) 80 (.int .i64 ((0 : Nat) : Int))⟩ : Bl) = Dig g T (updN 1 s (cpz z q (32 - q) x)) y (cpz z q (32 - q) x) 0 sz := by
      rw [upm_q]
      rfl
    rw [← e]
    exact M17.2.get (k := 0) rfl
  show Code.wp _ _ _ _ _
  unfold wrS wrZ wrQ
  simp only [if_neg hq0, if_neg hnq]
  exact wr_10 g T b (o + (32 - q)) (n - (32 - q)) (c - (32 - q)) n sz A' _ y _ (fun i => x (32 - q + i)) w W17 _ (fun _ => hbg (by omega)) hd17 (F12.trans G17) (by omega) (by omega) (fun hp => hA' (by omega)) ((show Bts b o n x W17 from fun i hi => G17.cell (hx12 i hi) (by simp; exact hbg (by omega))).from (32 - q) (n - (32 - q)) (by omega)) h17 (d17.trans d16)
end Go.Proofs.YtnehminojlocoaaDoor.PAll
namespace Go.Proofs.YtnehminojlocoaaDoor.PAll
open Go.RowKit Go.Proofs.YtnehminojlocoaaDoorW.PrintWords Go.Proofs.YtnehminojlocoaaDoorW.PrintLast Go.Proofs.YtnehminojlocoaaDoorW.PrintMore
set_option linter.unusedVariables false
set_option linter.unusedSimpArgs false
/-- append, an operation in the order of the text. -/
theorem app_ops {P : Program} {ops : Array Oper} {Q : Exit → Act → World → Prop} {N : Nat} {β : Nat → Nat} {α : Type} {i dst : Nat} {o : Oper} {l : List Nat} {a : Act} {E : List (Nat × SV)} (d : Kd α) {Rr : α → List Value → Prop} {w0 W : World} (base : Nat) (hoi : ops[i]? = some o) (hg : o.guard = none) (hd : o.dst = some dst) (hN : dst < N) (hA : Has N β E a) (s x : Operand) (t e : TypeId) (z : Value) (bytes : Nat)
    (ho : o.op = .call { callee := .builtin .append, args := #[s, x], argTypes := #[t, t] })
    (ht : P.underlying t = some (.slice e)) (hinfo : (P.info? e).map (fun i => (i.zero, i.size, i.bytes)) = some (some z, d.sz, bytes)) (hz : z.cells.size = d.sz) (hs0 : 0 < d.sz) (hb0 : 0 < bytes)
    (v : Value) (xs ys : List α) (A : Option Addr) (m c : Nat) (ok okp : Nat → Prop) (hs : a.eval s = v) (hx : a.eval x = .slice A m c)
    (HO : d.R e W base ok v xs) (HR : ReadsRow Rr d.sz W A m ys) (hKM : ∀ x cs, Rr x cs → d.M W base okp x cs) (hokp : ∀ k, okp k → ok k ∧ some k ≠ v.ownBlock) (hfresh : ∀ k, W.heap.size ≤ k → ok k)
    (HB : Below base w0 W) (hbase : base ≤ W.heap.size) (hl : (xs.length + m) * bytes ≤ 140737488355328)
    (h : ∀ v1 w1 a', d.R e w1 base ok v1 (xs ++ ys) → Below base w0 w1 → W.grownBy w1 v.ownBlock → Has N β ((dst, .v v1) :: E) a' → a'.defers = a.defers → wpOps P ops Q l a' w1) : wpOps P ops Q (i :: l) a W := by
  have key := Kd.R_append_rows_step (Kc := wpOps P ops Q l) (Q := Q) (ops := ops) d base (want_ hg) s x t e z bytes ho ht hinfo hz hs0 hb0 v xs ys A m c ok okp hs hx HO HR hKM hokp hfresh HB hbase hl (fun v1 w1 h1 h2 h3 _ => by
    rw [hd]
    exact h v1 w1 _ h1 h2 h3 (hA.put dst hN (.v v1)) (put_defs _ _ _))
  rw [if_pos (want_ hg)] at key
  unfold wpOps
  simp only [hoi]
  rw [if_pos (want_ hg)]
  exact Or.inl key
/-- A digest's state behind all its octets. -/
def dgS (s z : Nat → Int) (q : Nat) : Nat → Int := if q = 0 then s else hb q s z
theorem one_stm (s : Nat → Int) (m : Nat → Value) (j : Nat) (hj : j < 16) : (stm s m j).oneCell' = true := by
  unfold stm
  rw [if_pos hj]
  rfl
theorem state_copy (W : World) (s : Nat → Int) (m : Nat → Value) : (storeVar 92 ⟨W.heap.size, 0, none⟩ (.agg ((List.range 16).map (stm s m)).toArray)).run Tryd.prog (W.alloc (.cells (Array.replicate 16 (.int .u64 0)) 92)) = .ok () ((W.alloc (.cells (Array.replicate 16 (.int .u64 0)) 92)).setRow W.heap.size ((List.range 16).map (stm s m)).toArray) ∧
    (⟨W.heap.size, 92, 16, stm s m⟩ : Bl).In ((W.alloc (.cells (Array.replicate 16 (.int .u64 0)) 92)).setRow W.heap.size ((List.range 16).map (stm s m)).toArray) ∧ Fr [] W ((W.alloc (.cells (Array.replicate 16 (.int .u64 0)) 92)).setRow W.heap.size ((List.range 16).map (stm s m)).toArray) := by
  have hal := (MapKept.heap_alloc W (.cells (Array.replicate 16 (.int .u64 0)) 92)).1
  refine ⟨run_storeVar_row _ _ _ _ _ _ hal (by rw [List.size_toArray, List.length_map, List.length_range]; kernel_rfl) (by rw [Array.size_replicate]; simp) ?_, ⟨_, setRow_heap _ _ _ _ _ _ hal, by simp, fun i hi => ?_⟩, ?_⟩
  · rw [Array.all_eq_true_iff_forall_mem]
    intro v hv
    obtain ⟨j, hj, rfl⟩ : ∃ j, j < 16 ∧ stm s m j = v := by simpa using hv
    exact one_stm s m j hj
  · have hi' : i < 16 := hi
    rw [List.getElem?_toArray, List.getElem?_map, List.getElem?_range hi']
    rfl
  · have F1 := (Fr.refl [] W).alloc (.cells (Array.replicate 16 (.int .u64 0)) 92)
    exact F1.comp ((Fr.refl [W.heap.size] _).row W.heap.size (by simp) _) (fun k hk => by simp at hk; subst hk; right; exact Nat.le_refl _)
theorem dig_hb {g : Nat} {T : TypeId} {s y z : Nat → Int} {q sz : Nat} {W : World} (h : (Dig g T s y z q sz).In W) : (⟨g, T, 82, bufM 48 z (stm s (dgr y z q sz))⟩ : Bl).In W := Bl.In.eq (b := Dig g T s y z q sz) h (fun i hi => by
  show stm s (dgr y z q sz) i = bufM 48 z (stm s (dgr y z q sz)) i
  unfold bufM
  split
  · unfold stm dgr
    rw [if_neg (by omega), if_neg (by omega), if_pos (by omega)]
  · rfl)
theorem fB_8 (S : Nat → Int) (i : Nat) : fin8 S (fun _ => .int .u8 0) i = .int .u8 (fB (fin8 S) i) := by
  have h : ∃ x, fin8 S (fun _ => .int .u8 0) i = .int .u8 x := by
    unfold fin8 putB
    repeat' split
    all_goals exact ⟨_, rfl⟩
  obtain ⟨x, hx⟩ := h
  unfold fB
  rw [hx]
theorem sum8_fB (S : Nat → Int) : (List.range 8).map (fB (fin8 S)) = (List.range 8).map (lowL (le8 (byt (add4 S 0 4 8 12)))) := by
  have hw : W64 (add4 S 0 4 8 12) := by
    unfold add4
    exact W_wrap _
  rw [le8_byt _ hw _ (fun i hi => rfl), low_byt]
  rfl
noncomputable def c71_4_8 : Code := match Tryd.f71.body with
  | some (.seq _ (.seq _ (.seq _ c))) => c
  | _ => .skip
set_option maxHeartbeats 8000000 in
set_option maxRecDepth 100000 in
theorem sum8_end (base g T g1 q : Nat) (bv : Value) (l : List Int) (s y z S : Nat → Int) (m : Nat → Value) (w W : World) (a : Act) (hd : (Dig g T s y z q 8).In W) (hs : (⟨g1, 92, 16, stm S m⟩ : Bl).In W) (hgb : g < base) (hg1 : w.heap.size ≤ g1) (hbase : base ≤ w.heap.size) (hF : Fr [] w W) (HO : Kd.R (Kd.int .u8) 5 w base (fun _ => True) bv l) (hl : l.length < 70368744177664)
    (h0 : Has 37 (bn [g]) [(0, .p 0 0), (1, .v bv), (5, .v (.pointer (some ⟨g1, 0, none⟩)))] a) (d0 : a.defers = []) : Code.wp Tryd.prog c71_4_8 (bodyPost Tryd.prog Tryd.f71 fun e w' => ∃ v, e = .returned v ∧ Kd.R (Kd.int .u8) 5 w' base (fun _ => True) v (l ++ sumS 8 (S)) ∧ Below base w w') a W := by
  have lg : g < W.heap.size := hd.lt
  have lg1 : g1 < W.heap.size := hs.lt
  have wW : w.heap.size ≤ W.heap.size := hF.size
  refine wp_seq ?_
  refine wp_region ?_
  refine alloc_ops (N := 37) (i := 0) (d := 6) (l := []) rfl rfl rfl (by decide) h0 rfl allocOk71 (fun a1 h1 d1 => ?_)
  have F1 := (Fr.refl [] W).alloc (.cells (Array.replicate 32 (.int .u8 0)) 71)
  have hh1 := bl_rep0 W 32 (.int .u8 0) 71
  have hd1 := hd.on F1 (by simp)
  have hs1 := hs.on F1 (by simp)
  have F2 := hF.trans F1
  show Code.wp _ _ _ _ _
  generalize hW1 : W.alloc (.cells (Array.replicate 32 (.int .u8 0)) 71) = W1 at hd1 hs1 hh1 F2 ⊢
  clear hW1 F1 hd hs hF
  have M1 : Mw (bn [g, W.heap.size]) [Dig g T s y z q 8, ⟨W.heap.size, 71, 32, (fun _ => .int .u8 0)⟩] W1 := ⟨bg_bn _, hd1, by
    intro c hc
    simp only [List.mem_cons, List.not_mem_nil, or_false] at hc
    subst hc
    show W.heap.size ≠ g
    omega, hh1, by simp, trivial⟩
  have h2 := has_list (β := bn [g, W.heap.size]) (a := a1) h1.1 (E := [(0, .p 0 0), (1, .v bv), (5, .v (.pointer (some ⟨g1, 0, none⟩))), (6, .p 1 0)]) ⟨h1.2 0 _ rfl, h1.2 1 _ rfl, h1.2 5 _ rfl, h1.2 6 _ rfl, trivial⟩
  replace d1 := d1.trans d0
  clear h0 h1 d0
  have P := finalizec8_walk g1 92 W.heap.size 71 32 S m (fun _ => .int .u8 0) W1 hs1 hh1 (by omega) (by decide)
  refine wp_seq ?_
  refine regM_seq_call (N := 37) (T := TT) (n := 5) (f := 42) (d := 29) (args := [.s 1 0 8 32, .v (.pointer (some ⟨g1, 0, none⟩))]) (E2 := [(0, .p 0 0), (1, .v bv), (5, .v (.pointer (some ⟨g1, 0, none⟩))), (6, .p 1 0)]) tabOk h2 M1 rfl (by kernel_rfl) Tryd.func42 rfl rfl (fun v W' => Mw (bn [g, W.heap.size]) [Dig g T s y z q 8, ⟨W.heap.size, 71, 32, fin8 (mixN 4 S) (fun _ => .int .u8 0)⟩] W' ∧ Fr [g1, W.heap.size] W1 W') (P.mono fun e W' hh => ⟨_, hh.1, ⟨bg_bn _, hd1.on hh.2.2 (by show g ∉ [g1, W.heap.size]; simp; omega), by
    intro c hc
    simp only [List.mem_cons, List.not_mem_nil, or_false] at hc
    subst hc
    show W.heap.size ≠ g
    omega, hh.2.1, by simp, trivial⟩, hh.2.2⟩) ⟨by kernel_rfl, by kernel_rfl, by kernel_rfl, by kernel_rfl, trivial⟩ rfl (fun a3 v3 W3 h3 d3 hR => ?_)
  obtain ⟨M3, G3⟩ := hR
  replace h3 := sub_ok (E := [(0, .p 0 0), (1, .v bv), (5, .v (.pointer (some ⟨g1, 0, none⟩))), (6, .p 1 0)]) h3 ⟨by kernel_rfl, by kernel_rfl, by kernel_rfl, by kernel_rfl, trivial⟩
  replace d3 := d3.trans d1
  have F3 : Fr [] w W3 := F2.comp G3 (fun k hk => by simp at hk; rcases hk with rfl | rfl <;> right <;> omega)
  have HO3 : Kd.R (Kd.int .u8) 5 W3 base (fun _ => True) bv l := Kd.R_below HO (F3.below _ (Nat.le_refl _) (by simp))
  clear h2 d1 P G3 F2 M1 hd1 hs1 hh1
  show Code.wp _ _ _ _ _
  refine wp_seq ?_
  refine wp_region ?_
  refine ops_ (N := 37) (M := bm [Dig g T s y z q 8, ⟨W.heap.size, 71, 32, fin8 (mixN 4 S) (fun _ => .int .u8 0)⟩]) (T := TT) (E' := [(35, .s 1 0 8 32), (34, .v (.int .i64 ((8 : Nat) : Int))), (33, .p 0 81), (32, .p 0 0), (31, .p 0 0), (30, .v bv)] ++ [(0, .p 0 0), (1, .v bv), (5, .v (.pointer (some ⟨g1, 0, none⟩))), (6, .p 1 0)]) tabOk M3.mem [6, 7] [0, 1, 2, 3, 4, 5] (by kernel_rfl) h3 (fun a4 h4 d4 => ?_)
  have hcell : ∀ i, i < 8 → W3.cell? ⟨W.heap.size, 0 + i, none⟩ = some (.int .u8 (fB (fin8 (mixN 4 S)) i)) := fun i hi => by
    rw [Nat.zero_add]
    exact ((M3.2.get (k := 1) rfl).cell i (show i < 32 by omega)).trans (congrArg some (fB_8 (mixN 4 S) i))
  have HR := cells_C hcell (by decide)
  refine app_ops (N := 37) (i := 6) (dst := 36) (l := [7]) (Kd.int .u8) (w0 := w) base rfl rfl rfl (by decide) h4 (.tmp 30) (.tmp 35) 22 5 (.int .u8 0) 1 rfl Tryd.underlying22 (by kernel_rfl) rfl (by decide) (by decide) bv l ((List.range 8).map (fB (fin8 (mixN 4 S)))) (some ⟨W.heap.size, 0, none⟩) 8 32 (fun _ => True) (fun _ => False) (h4.2 30 _ rfl) (h4.2 35 _ rfl) HO3 HR (fun x cs h => h) (fun _ h => h.elim) (fun _ _ => trivial) (F3.below _ hbase (by simp)) (Nat.le_trans hbase F3.size) (by omega) (fun v1 w1 a5 hv1 hb1 hg1 h5 d5 => ?_)
  refine ops_ (N := 37) (M := fun _ _ => none) (T := TT) (E' := (4, .v v1) :: (36, .v v1) :: [(35, .s 1 0 8 32), (34, .v (.int .i64 ((8 : Nat) : Int))), (33, .p 0 81), (32, .p 0 0), (31, .p 0 0), (30, .v bv)] ++ [(0, .p 0 0), (1, .v bv), (5, .v (.pointer (some ⟨g1, 0, none⟩))), (6, .p 1 0)]) tabOk (fun _ _ _ h => by cases h) [] [7] (by kernel_rfl) h5 (fun a6 h6 d6 => ?_)
  show Code.wp _ _ _ _ _
  refine wp_ret ?_
  refine ⟨d6.trans (d5.trans (d4.trans d3)), _, results_tmp rfl _ _ _, v1, congrArg Ending.returned (h6.2 4 _ rfl), ?_, hb1⟩
  rw [sum8_fB] at hv1
  exact hv1
set_option maxHeartbeats 8000000 in
set_option maxRecDepth 100000 in
theorem sum8_dig (base g T q : Nat) (bv : Value) (l : List Int) (s y z : Nat → Int) (w : World) (hd : (Dig g T s y z q 8).In w) (hq : q < 32) (hgb : g < base) (hbase : base ≤ w.heap.size) (HO : Kd.R (Kd.int .u8) 5 w base (fun _ => True) bv l) (hl : l.length < 70368744177664) :
    Calls Tryd.prog 71 #[.pointer (some ⟨g, 0, none⟩), bv] w fun e w' => ∃ v, e = .returned v ∧ Kd.R (Kd.int .u8) 5 w' base (fun _ => True) v (l ++ sumS 8 (dgS s z q)) ∧ Below base w w' := by
  refine calls_of_wp Tryd.func71 rfl ?_
  have h0 : Has 37 (bn [g]) [(0, .p 0 0), (1, .v bv)] ⟨#[.pointer (some ⟨g, 0, none⟩), bv] ++ Array.replicate 35 undef, []⟩ := has_two (β := bn [g]) (.p 0 0) (.v bv) 35
  have M0 := dig_mw hd
  have d0 : (⟨#[.pointer (some ⟨g, 0, none⟩), bv] ++ Array.replicate 35 undef, []⟩ : Act).defers = [] := rfl
  refine wp_seq ?_
  refine regM_seq (N := 37) (T := TT) (n := 1) (E2 := [(0, .p 0 0), (1, .v bv)]) tabOk h0 M0 rfl (by kernel_rfl) ⟨by kernel_rfl, by kernel_rfl, trivial⟩ (fun a1 h1 d1 => ?_)
  show Code.wp _ _ _ _ _
  replace d1 := d1.trans d0
  clear h0 d0
  refine wp_seq ?_
  refine wp_region ?_
  refine ops_ (N := 37) (M := bm [Dig g T s y z q 8]) (T := TT) (E' := (10, .v (.agg ((List.range 16).map (stm s (dgr y z q 8))).toArray)) :: (9, .p 0 0) :: (8, .p 0 0) :: (7, .p 0 0) :: [(0, .p 0 0), (1, .v bv)]) tabOk M0.mem [4, 5] [0, 1, 2, 3] (by kernel_rfl) h1 (fun a2 h2 d2 => ?_)
  refine alloc_ops (N := 37) (i := 4) (d := 5) (l := [5]) rfl rfl rfl (by decide) h2 rfl allocOk92 (fun a3 h3 d3 => ?_)
  obtain ⟨hst, hs1, F1⟩ := state_copy w s (dgr y z q 8)
  refine store_ops (N := 37) (i := 5) (l := []) (t := 92) rfl rfl rfl h3 (b := w.heap.size) (cs := ((List.range 16).map (stm s (dgr y z q 8))).toArray) (y := .tmp 10) (x := .tmp 5) rfl (h3.2 5 _ rfl) (h3.2 10 _ rfl) hst ?_
  have hd1 := hd.on F1 (by simp)
  have h4 := sub_ok (E := [(0, .p 0 0), (1, .v bv), (5, .v (.pointer (some ⟨w.heap.size, 0, none⟩)))]) h3 ⟨by kernel_rfl, by kernel_rfl, by kernel_rfl, trivial⟩
  have d4 := d3.trans (d2.trans d1)
  show Code.wp _ _ _ _ _
  clear hst h1 h2 h3 d1 d2 d3 M0
  generalize (w.alloc (.cells (Array.replicate 16 (.int .u64 0)) 92)).setRow w.heap.size ((List.range 16).map (stm s (dgr y z q 8))).toArray = W1 at hs1 F1 hd1 ⊢
  have M1 := dig_mw hd1
  have lg : g < w.heap.size := hd.lt
  refine wp_seq ?_
  refine wp_seq ?_
  refine regM_seq (N := 37) (T := TT) (n := 5) (E2 := [(0, .p 0 0), (1, .v bv), (5, .v (.pointer (some ⟨w.heap.size, 0, none⟩))), (15, .v (.bool (decide ((q : Int) > 0))))]) tabOk h4 M1 rfl (by kernel_rfl) ⟨by kernel_rfl, by kernel_rfl, by kernel_rfl, by kernel_rfl, trivial⟩ (fun a5 h5 d5 => ?_)
  show Code.wp _ _ _ _ _
  replace d5 := d5.trans d4
  clear h4 d4
  by_cases hq0 : q = 0
  · refine wp_cond_false ((h5.2 15 _ rfl).trans (congrArg Value.bool (decide_eq_false (by omega)))) ?_
    refine wp_skip ?_
    show Code.wp _ _ _ _ _
    have h6 := sub_ok (E := [(0, .p 0 0), (1, .v bv), (5, .v (.pointer (some ⟨w.heap.size, 0, none⟩)))]) h5 ⟨by kernel_rfl, by kernel_rfl, by kernel_rfl, trivial⟩
    unfold dgS
    rw [if_pos hq0]
    exact sum8_end base g T w.heap.size q bv l s y z s (dgr y z q 8) w W1 a5 hd1 hs1 hgb (Nat.le_refl _) hbase F1 HO hl h6 d5
  · refine wp_cond_true ((h5.2 15 _ rfl).trans (congrArg Value.bool (decide_eq_true (by omega)))) ?_
    have P := hb_walk w.heap.size 92 g T q 48 82 (by decide) s z (dgr y z q 8) (stm s (dgr y z q 8)) W1.drew (by omega) hq hs1 (dig_hb hd1) (by omega)
    refine reg_call_last (N := 37) (T := TT) (M := bm [Dig g T s y z q 8]) (j := 7) (l1 := [0, 1, 2, 3, 4, 5, 6]) (f := 41) (d := 23) (args := [.v (.pointer (some ⟨w.heap.size, 0, none⟩)), .p 0 48, .v (.int .i64 (q : Int))]) (E2 := [(0, .p 0 0), (1, .v bv), (5, .v (.pointer (some ⟨w.heap.size, 0, none⟩)))]) (by kernel_rfl) tabOk h5 M1.mem rfl (by kernel_rfl) (by kernel_rfl) Tryd.func41 rfl rfl (fun v W' => (⟨w.heap.size, 92, 16, stm (hb q s z) (dgr y z q 8)⟩ : Bl).In W' ∧ Fr [w.heap.size] W1 W') (P.mono fun e W' hh => ⟨_, hh.1, hh.2.1, hh.2.2⟩) ⟨by kernel_rfl, by kernel_rfl, by kernel_rfl, trivial⟩ rfl (fun _ _ _ _ hd h => And.intro (hd.trans (And.left h)) (And.right h)) (fun a6 v6 W6 h6 d6 hR => ?_)
    obtain ⟨hs6, G6⟩ := hR
    show Code.wp _ _ _ _ _
    have h7 := sub_ok (E := [(0, .p 0 0), (1, .v bv), (5, .v (.pointer (some ⟨w.heap.size, 0, none⟩)))]) h6 ⟨by kernel_rfl, by kernel_rfl, by kernel_rfl, trivial⟩
    have F6 : Fr [] w W6 := F1.comp G6 (fun k hk => by simp at hk; subst hk; right; exact Nat.le_refl _)
    unfold dgS
    rw [if_neg hq0]
    exact sum8_end base g T w.heap.size q bv l s y z (hb q s z) (dgr y z q 8) w W6 a6 (hd1.on G6 (by show g ∉ [w.heap.size]; simp; omega)) hs6 hgb (Nat.le_refl _) hbase F6 HO hl h7 (d6.trans d5)
noncomputable def c71_4_16 : Code := match Tryd.f71.body with
  | some (.seq _ (.seq _ (.seq _ c))) => c
  | _ => .skip
set_option maxHeartbeats 8000000 in
set_option maxRecDepth 100000 in
theorem sum16_end (base g T g1 q : Nat) (bv : Value) (l : List Int) (s y z S : Nat → Int) (m : Nat → Value) (w W : World) (a : Act) (hd : (Dig g T s y z q 16).In W) (hs : (⟨g1, 92, 16, stm S m⟩ : Bl).In W) (hgb : g < base) (hg1 : w.heap.size ≤ g1) (hbase : base ≤ w.heap.size) (hF : Fr [] w W) (HO : Kd.R (Kd.int .u8) 5 w base (fun _ => True) bv l) (hl : l.length < 70368744177664)
    (h0 : Has 37 (bn [g]) [(0, .p 0 0), (1, .v bv), (5, .v (.pointer (some ⟨g1, 0, none⟩)))] a) (d0 : a.defers = []) : Code.wp Tryd.prog c71_4_16 (bodyPost Tryd.prog Tryd.f71 fun e w' => ∃ v, e = .returned v ∧ Kd.R (Kd.int .u8) 5 w' base (fun _ => True) v (l ++ sumS 16 (S)) ∧ Below base w w') a W := by
  have lg : g < W.heap.size := hd.lt
  have lg1 : g1 < W.heap.size := hs.lt
  have wW : w.heap.size ≤ W.heap.size := hF.size
  refine wp_seq ?_
  refine wp_region ?_
  refine alloc_ops (N := 37) (i := 0) (d := 6) (l := []) rfl rfl rfl (by decide) h0 rfl allocOk71 (fun a1 h1 d1 => ?_)
  have F1 := (Fr.refl [] W).alloc (.cells (Array.replicate 32 (.int .u8 0)) 71)
  have hh1 := bl_rep0 W 32 (.int .u8 0) 71
  have hd1 := hd.on F1 (by simp)
  have hs1 := hs.on F1 (by simp)
  have F2 := hF.trans F1
  show Code.wp _ _ _ _ _
  generalize hW1 : W.alloc (.cells (Array.replicate 32 (.int .u8 0)) 71) = W1 at hd1 hs1 hh1 F2 ⊢
  clear hW1 F1 hd hs hF
  have M1 : Mw (bn [g, W.heap.size]) [Dig g T s y z q 16, ⟨W.heap.size, 71, 32, (fun _ => .int .u8 0)⟩] W1 := ⟨bg_bn _, hd1, by
    intro c hc
    simp only [List.mem_cons, List.not_mem_nil, or_false] at hc
    subst hc
    show W.heap.size ≠ g
    omega, hh1, by simp, trivial⟩
  have h2 := has_list (β := bn [g, W.heap.size]) (a := a1) h1.1 (E := [(0, .p 0 0), (1, .v bv), (5, .v (.pointer (some ⟨g1, 0, none⟩))), (6, .p 1 0)]) ⟨h1.2 0 _ rfl, h1.2 1 _ rfl, h1.2 5 _ rfl, h1.2 6 _ rfl, trivial⟩
  replace d1 := d1.trans d0
  clear h0 h1 d0
  have P := finalizec16_walk g1 92 W.heap.size 71 32 S m (fun _ => .int .u8 0) W1 hs1 hh1 (by omega) (by decide)
  refine wp_seq ?_
  refine regM_seq_call (N := 37) (T := TT) (n := 5) (f := 42) (d := 29) (args := [.s 1 0 16 32, .v (.pointer (some ⟨g1, 0, none⟩))]) (E2 := [(0, .p 0 0), (1, .v bv), (5, .v (.pointer (some ⟨g1, 0, none⟩))), (6, .p 1 0)]) tabOk h2 M1 rfl (by kernel_rfl) Tryd.func42 rfl rfl (fun v W' => Mw (bn [g, W.heap.size]) [Dig g T s y z q 16, ⟨W.heap.size, 71, 32, fin16 (mixN 6 S) (fun _ => .int .u8 0)⟩] W' ∧ Fr [g1, W.heap.size] W1 W') (P.mono fun e W' hh => ⟨_, hh.1, ⟨bg_bn _, hd1.on hh.2.2 (by show g ∉ [g1, W.heap.size]; simp; omega), by
    intro c hc
    simp only [List.mem_cons, List.not_mem_nil, or_false] at hc
    subst hc
    show W.heap.size ≠ g
    omega, hh.2.1, by simp, trivial⟩, hh.2.2⟩) ⟨by kernel_rfl, by kernel_rfl, by kernel_rfl, by kernel_rfl, trivial⟩ rfl (fun a3 v3 W3 h3 d3 hR => ?_)
  obtain ⟨M3, G3⟩ := hR
  replace h3 := sub_ok (E := [(0, .p 0 0), (1, .v bv), (5, .v (.pointer (some ⟨g1, 0, none⟩))), (6, .p 1 0)]) h3 ⟨by kernel_rfl, by kernel_rfl, by kernel_rfl, by kernel_rfl, trivial⟩
  replace d3 := d3.trans d1
  have F3 : Fr [] w W3 := F2.comp G3 (fun k hk => by simp at hk; rcases hk with rfl | rfl <;> right <;> omega)
  have HO3 : Kd.R (Kd.int .u8) 5 W3 base (fun _ => True) bv l := Kd.R_below HO (F3.below _ (Nat.le_refl _) (by simp))
  clear h2 d1 P G3 F2 M1 hd1 hs1 hh1
  show Code.wp _ _ _ _ _
  refine wp_seq ?_
  refine wp_region ?_
  refine ops_ (N := 37) (M := bm [Dig g T s y z q 16, ⟨W.heap.size, 71, 32, fin16 (mixN 6 S) (fun _ => .int .u8 0)⟩]) (T := TT) (E' := [(35, .s 1 0 16 32), (34, .v (.int .i64 ((16 : Nat) : Int))), (33, .p 0 81), (32, .p 0 0), (31, .p 0 0), (30, .v bv)] ++ [(0, .p 0 0), (1, .v bv), (5, .v (.pointer (some ⟨g1, 0, none⟩))), (6, .p 1 0)]) tabOk M3.mem [6, 7] [0, 1, 2, 3, 4, 5] (by kernel_rfl) h3 (fun a4 h4 d4 => ?_)
  have hcell : ∀ i, i < 16 → W3.cell? ⟨W.heap.size, 0 + i, none⟩ = some (.int .u8 (fB (fin16 (mixN 6 S)) i)) := fun i hi => by
    rw [Nat.zero_add]
    exact ((M3.2.get (k := 1) rfl).cell i (show i < 32 by omega)).trans (congrArg some (fB_16 (mixN 6 S) i))
  have HR := cells_C hcell (by decide)
  refine app_ops (N := 37) (i := 6) (dst := 36) (l := [7]) (Kd.int .u8) (w0 := w) base rfl rfl rfl (by decide) h4 (.tmp 30) (.tmp 35) 22 5 (.int .u8 0) 1 rfl Tryd.underlying22 (by kernel_rfl) rfl (by decide) (by decide) bv l ((List.range 16).map (fB (fin16 (mixN 6 S)))) (some ⟨W.heap.size, 0, none⟩) 16 32 (fun _ => True) (fun _ => False) (h4.2 30 _ rfl) (h4.2 35 _ rfl) HO3 HR (fun x cs h => h) (fun _ h => h.elim) (fun _ _ => trivial) (F3.below _ hbase (by simp)) (Nat.le_trans hbase F3.size) (by omega) (fun v1 w1 a5 hv1 hb1 hg1 h5 d5 => ?_)
  refine ops_ (N := 37) (M := fun _ _ => none) (T := TT) (E' := (4, .v v1) :: (36, .v v1) :: [(35, .s 1 0 16 32), (34, .v (.int .i64 ((16 : Nat) : Int))), (33, .p 0 81), (32, .p 0 0), (31, .p 0 0), (30, .v bv)] ++ [(0, .p 0 0), (1, .v bv), (5, .v (.pointer (some ⟨g1, 0, none⟩))), (6, .p 1 0)]) tabOk (fun _ _ _ h => by cases h) [] [7] (by kernel_rfl) h5 (fun a6 h6 d6 => ?_)
  show Code.wp _ _ _ _ _
  refine wp_ret ?_
  refine ⟨d6.trans (d5.trans (d4.trans d3)), _, results_tmp rfl _ _ _, v1, congrArg Ending.returned (h6.2 4 _ rfl), ?_, hb1⟩
  exact hv1
set_option maxHeartbeats 8000000 in
set_option maxRecDepth 100000 in
theorem sum16_dig (base g T q : Nat) (bv : Value) (l : List Int) (s y z : Nat → Int) (w : World) (hd : (Dig g T s y z q 16).In w) (hq : q < 32) (hgb : g < base) (hbase : base ≤ w.heap.size) (HO : Kd.R (Kd.int .u8) 5 w base (fun _ => True) bv l) (hl : l.length < 70368744177664) :
    Calls Tryd.prog 71 #[.pointer (some ⟨g, 0, none⟩), bv] w fun e w' => ∃ v, e = .returned v ∧ Kd.R (Kd.int .u8) 5 w' base (fun _ => True) v (l ++ sumS 16 (dgS s z q)) ∧ Below base w w' := by
  refine calls_of_wp Tryd.func71 rfl ?_
  have h0 : Has 37 (bn [g]) [(0, .p 0 0), (1, .v bv)] ⟨#[.pointer (some ⟨g, 0, none⟩), bv] ++ Array.replicate 35 undef, []⟩ := has_two (β := bn [g]) (.p 0 0) (.v bv) 35
  have M0 := dig_mw hd
  have d0 : (⟨#[.pointer (some ⟨g, 0, none⟩), bv] ++ Array.replicate 35 undef, []⟩ : Act).defers = [] := rfl
  refine wp_seq ?_
  refine regM_seq (N := 37) (T := TT) (n := 1) (E2 := [(0, .p 0 0), (1, .v bv)]) tabOk h0 M0 rfl (by kernel_rfl) ⟨by kernel_rfl, by kernel_rfl, trivial⟩ (fun a1 h1 d1 => ?_)
  show Code.wp _ _ _ _ _
  replace d1 := d1.trans d0
  clear h0 d0
  refine wp_seq ?_
  refine wp_region ?_
  refine ops_ (N := 37) (M := bm [Dig g T s y z q 16]) (T := TT) (E' := (10, .v (.agg ((List.range 16).map (stm s (dgr y z q 16))).toArray)) :: (9, .p 0 0) :: (8, .p 0 0) :: (7, .p 0 0) :: [(0, .p 0 0), (1, .v bv)]) tabOk M0.mem [4, 5] [0, 1, 2, 3] (by kernel_rfl) h1 (fun a2 h2 d2 => ?_)
  refine alloc_ops (N := 37) (i := 4) (d := 5) (l := [5]) rfl rfl rfl (by decide) h2 rfl allocOk92 (fun a3 h3 d3 => ?_)
  obtain ⟨hst, hs1, F1⟩ := state_copy w s (dgr y z q 16)
  refine store_ops (N := 37) (i := 5) (l := []) (t := 92) rfl rfl rfl h3 (b := w.heap.size) (cs := ((List.range 16).map (stm s (dgr y z q 16))).toArray) (y := .tmp 10) (x := .tmp 5) rfl (h3.2 5 _ rfl) (h3.2 10 _ rfl) hst ?_
  have hd1 := hd.on F1 (by simp)
  have h4 := sub_ok (E := [(0, .p 0 0), (1, .v bv), (5, .v (.pointer (some ⟨w.heap.size, 0, none⟩)))]) h3 ⟨by kernel_rfl, by kernel_rfl, by kernel_rfl, trivial⟩
  have d4 := d3.trans (d2.trans d1)
  show Code.wp _ _ _ _ _
  clear hst h1 h2 h3 d1 d2 d3 M0
  generalize (w.alloc (.cells (Array.replicate 16 (.int .u64 0)) 92)).setRow w.heap.size ((List.range 16).map (stm s (dgr y z q 16))).toArray = W1 at hs1 F1 hd1 ⊢
  have M1 := dig_mw hd1
  have lg : g < w.heap.size := hd.lt
  refine wp_seq ?_
  refine wp_seq ?_
  refine regM_seq (N := 37) (T := TT) (n := 5) (E2 := [(0, .p 0 0), (1, .v bv), (5, .v (.pointer (some ⟨w.heap.size, 0, none⟩))), (15, .v (.bool (decide ((q : Int) > 0))))]) tabOk h4 M1 rfl (by kernel_rfl) ⟨by kernel_rfl, by kernel_rfl, by kernel_rfl, by kernel_rfl, trivial⟩ (fun a5 h5 d5 => ?_)
  show Code.wp _ _ _ _ _
  replace d5 := d5.trans d4
  clear h4 d4
  by_cases hq0 : q = 0
  · refine wp_cond_false ((h5.2 15 _ rfl).trans (congrArg Value.bool (decide_eq_false (by omega)))) ?_
    refine wp_skip ?_
    show Code.wp _ _ _ _ _
    have h6 := sub_ok (E := [(0, .p 0 0), (1, .v bv), (5, .v (.pointer (some ⟨w.heap.size, 0, none⟩)))]) h5 ⟨by kernel_rfl, by kernel_rfl, by kernel_rfl, trivial⟩
    unfold dgS
    rw [if_pos hq0]
    exact sum16_end base g T w.heap.size q bv l s y z s (dgr y z q 16) w W1 a5 hd1 hs1 hgb (Nat.le_refl _) hbase F1 HO hl h6 d5
  · refine wp_cond_true ((h5.2 15 _ rfl).trans (congrArg Value.bool (decide_eq_true (by omega)))) ?_
    have P := hb_walk w.heap.size 92 g T q 48 82 (by decide) s z (dgr y z q 16) (stm s (dgr y z q 16)) W1.drew (by omega) hq hs1 (dig_hb hd1) (by omega)
    refine reg_call_last (N := 37) (T := TT) (M := bm [Dig g T s y z q 16]) (j := 7) (l1 := [0, 1, 2, 3, 4, 5, 6]) (f := 41) (d := 23) (args := [.v (.pointer (some ⟨w.heap.size, 0, none⟩)), .p 0 48, .v (.int .i64 (q : Int))]) (E2 := [(0, .p 0 0), (1, .v bv), (5, .v (.pointer (some ⟨w.heap.size, 0, none⟩)))]) (by kernel_rfl) tabOk h5 M1.mem rfl (by kernel_rfl) (by kernel_rfl) Tryd.func41 rfl rfl (fun v W' => (⟨w.heap.size, 92, 16, stm (hb q s z) (dgr y z q 16)⟩ : Bl).In W' ∧ Fr [w.heap.size] W1 W') (P.mono fun e W' hh => ⟨_, hh.1, hh.2.1, hh.2.2⟩) ⟨by kernel_rfl, by kernel_rfl, by kernel_rfl, trivial⟩ rfl (fun _ _ _ _ hd h => And.intro (hd.trans (And.left h)) (And.right h)) (fun a6 v6 W6 h6 d6 hR => ?_)
    obtain ⟨hs6, G6⟩ := hR
    show Code.wp _ _ _ _ _
    have h7 := sub_ok (E := [(0, .p 0 0), (1, .v bv), (5, .v (.pointer (some ⟨w.heap.size, 0, none⟩)))]) h6 ⟨by kernel_rfl, by kernel_rfl, by kernel_rfl, trivial⟩
    have F6 : Fr [] w W6 := F1.comp G6 (fun k hk => by simp at hk; subst hk; right; exact Nat.le_refl _)
    unfold dgS
    rw [if_neg hq0]
    exact sum16_end base g T w.heap.size q bv l s y z (hb q s z) (dgr y z q 16) w W6 a6 (hd1.on G6 (by show g ∉ [w.heap.size]; simp; omega)) hs6 hgb (Nat.le_refl _) hbase F6 HO hl h7 (d6.trans d5)
noncomputable def c71_4_32 : Code := match Tryd.f71.body with
  | some (.seq _ (.seq _ (.seq _ c))) => c
  | _ => .skip
set_option maxHeartbeats 8000000 in
set_option maxRecDepth 100000 in
theorem sum32_end (base g T g1 q : Nat) (bv : Value) (l : List Int) (s y z S : Nat → Int) (m : Nat → Value) (w W : World) (a : Act) (hd : (Dig g T s y z q 32).In W) (hs : (⟨g1, 92, 16, stm S m⟩ : Bl).In W) (hgb : g < base) (hg1 : w.heap.size ≤ g1) (hbase : base ≤ w.heap.size) (hF : Fr [] w W) (HO : Kd.R (Kd.int .u8) 5 w base (fun _ => True) bv l) (hl : l.length < 70368744177664)
    (h0 : Has 37 (bn [g]) [(0, .p 0 0), (1, .v bv), (5, .v (.pointer (some ⟨g1, 0, none⟩)))] a) (d0 : a.defers = []) : Code.wp Tryd.prog c71_4_32 (bodyPost Tryd.prog Tryd.f71 fun e w' => ∃ v, e = .returned v ∧ Kd.R (Kd.int .u8) 5 w' base (fun _ => True) v (l ++ sumS 32 (S)) ∧ Below base w w') a W := by
  have lg : g < W.heap.size := hd.lt
  have lg1 : g1 < W.heap.size := hs.lt
  have wW : w.heap.size ≤ W.heap.size := hF.size
  refine wp_seq ?_
  refine wp_region ?_
  refine alloc_ops (N := 37) (i := 0) (d := 6) (l := []) rfl rfl rfl (by decide) h0 rfl allocOk71 (fun a1 h1 d1 => ?_)
  have F1 := (Fr.refl [] W).alloc (.cells (Array.replicate 32 (.int .u8 0)) 71)
  have hh1 := bl_rep0 W 32 (.int .u8 0) 71
  have hd1 := hd.on F1 (by simp)
  have hs1 := hs.on F1 (by simp)
  have F2 := hF.trans F1
  show Code.wp _ _ _ _ _
  generalize hW1 : W.alloc (.cells (Array.replicate 32 (.int .u8 0)) 71) = W1 at hd1 hs1 hh1 F2 ⊢
  clear hW1 F1 hd hs hF
  have M1 : Mw (bn [g, W.heap.size]) [Dig g T s y z q 32, ⟨W.heap.size, 71, 32, (fun _ => .int .u8 0)⟩] W1 := ⟨bg_bn _, hd1, by
    intro c hc
    simp only [List.mem_cons, List.not_mem_nil, or_false] at hc
    subst hc
    show W.heap.size ≠ g
    omega, hh1, by simp, trivial⟩
  have h2 := has_list (β := bn [g, W.heap.size]) (a := a1) h1.1 (E := [(0, .p 0 0), (1, .v bv), (5, .v (.pointer (some ⟨g1, 0, none⟩))), (6, .p 1 0)]) ⟨h1.2 0 _ rfl, h1.2 1 _ rfl, h1.2 5 _ rfl, h1.2 6 _ rfl, trivial⟩
  replace d1 := d1.trans d0
  clear h0 h1 d0
  have P := finalize32_walk g1 92 W.heap.size 71 32 S m (fun _ => .int .u8 0) W1 hs1 hh1 (by omega) (by decide)
  refine wp_seq ?_
  refine regM_seq_call (N := 37) (T := TT) (n := 5) (f := 42) (d := 29) (args := [.s 1 0 32 32, .v (.pointer (some ⟨g1, 0, none⟩))]) (E2 := [(0, .p 0 0), (1, .v bv), (5, .v (.pointer (some ⟨g1, 0, none⟩))), (6, .p 1 0)]) tabOk h2 M1 rfl (by kernel_rfl) Tryd.func42 rfl rfl (fun v W' => Mw (bn [g, W.heap.size]) [Dig g T s y z q 32, ⟨W.heap.size, 71, 32, fin32 (mixN 10 S) (fun _ => .int .u8 0)⟩] W' ∧ Fr [g1, W.heap.size] W1 W') (P.mono fun e W' hh => ⟨_, hh.1, ⟨bg_bn _, hd1.on hh.2.2 (by show g ∉ [g1, W.heap.size]; simp; omega), by
    intro c hc
    simp only [List.mem_cons, List.not_mem_nil, or_false] at hc
    subst hc
    show W.heap.size ≠ g
    omega, hh.2.1, by simp, trivial⟩, hh.2.2⟩) ⟨by kernel_rfl, by kernel_rfl, by kernel_rfl, by kernel_rfl, trivial⟩ rfl (fun a3 v3 W3 h3 d3 hR => ?_)
  obtain ⟨M3, G3⟩ := hR
  replace h3 := sub_ok (E := [(0, .p 0 0), (1, .v bv), (5, .v (.pointer (some ⟨g1, 0, none⟩))), (6, .p 1 0)]) h3 ⟨by kernel_rfl, by kernel_rfl, by kernel_rfl, by kernel_rfl, trivial⟩
  replace d3 := d3.trans d1
  have F3 : Fr [] w W3 := F2.comp G3 (fun k hk => by simp at hk; rcases hk with rfl | rfl <;> right <;> omega)
  have HO3 : Kd.R (Kd.int .u8) 5 W3 base (fun _ => True) bv l := Kd.R_below HO (F3.below _ (Nat.le_refl _) (by simp))
  clear h2 d1 P G3 F2 M1 hd1 hs1 hh1
  show Code.wp _ _ _ _ _
  refine wp_seq ?_
  refine wp_region ?_
  refine ops_ (N := 37) (M := bm [Dig g T s y z q 32, ⟨W.heap.size, 71, 32, fin32 (mixN 10 S) (fun _ => .int .u8 0)⟩]) (T := TT) (E' := [(35, .s 1 0 32 32), (34, .v (.int .i64 ((32 : Nat) : Int))), (33, .p 0 81), (32, .p 0 0), (31, .p 0 0), (30, .v bv)] ++ [(0, .p 0 0), (1, .v bv), (5, .v (.pointer (some ⟨g1, 0, none⟩))), (6, .p 1 0)]) tabOk M3.mem [6, 7] [0, 1, 2, 3, 4, 5] (by kernel_rfl) h3 (fun a4 h4 d4 => ?_)
  have hcell : ∀ i, i < 32 → W3.cell? ⟨W.heap.size, 0 + i, none⟩ = some (.int .u8 (fB (fin32 (mixN 10 S)) i)) := fun i hi => by
    rw [Nat.zero_add]
    exact ((M3.2.get (k := 1) rfl).cell i (show i < 32 by omega)).trans (congrArg some (fB_32 (mixN 10 S) i))
  have HR := cells_C hcell (by decide)
  refine app_ops (N := 37) (i := 6) (dst := 36) (l := [7]) (Kd.int .u8) (w0 := w) base rfl rfl rfl (by decide) h4 (.tmp 30) (.tmp 35) 22 5 (.int .u8 0) 1 rfl Tryd.underlying22 (by kernel_rfl) rfl (by decide) (by decide) bv l ((List.range 32).map (fB (fin32 (mixN 10 S)))) (some ⟨W.heap.size, 0, none⟩) 32 32 (fun _ => True) (fun _ => False) (h4.2 30 _ rfl) (h4.2 35 _ rfl) HO3 HR (fun x cs h => h) (fun _ h => h.elim) (fun _ _ => trivial) (F3.below _ hbase (by simp)) (Nat.le_trans hbase F3.size) (by omega) (fun v1 w1 a5 hv1 hb1 hg1 h5 d5 => ?_)
  refine ops_ (N := 37) (M := fun _ _ => none) (T := TT) (E' := (4, .v v1) :: (36, .v v1) :: [(35, .s 1 0 32 32), (34, .v (.int .i64 ((32 : Nat) : Int))), (33, .p 0 81), (32, .p 0 0), (31, .p 0 0), (30, .v bv)] ++ [(0, .p 0 0), (1, .v bv), (5, .v (.pointer (some ⟨g1, 0, none⟩))), (6, .p 1 0)]) tabOk (fun _ _ _ h => by cases h) [] [7] (by kernel_rfl) h5 (fun a6 h6 d6 => ?_)
  show Code.wp _ _ _ _ _
  refine wp_ret ?_
  refine ⟨d6.trans (d5.trans (d4.trans d3)), _, results_tmp rfl _ _ _, v1, congrArg Ending.returned (h6.2 4 _ rfl), ?_, hb1⟩
  exact hv1
set_option maxHeartbeats 8000000 in
set_option maxRecDepth 100000 in
theorem sum32_dig (base g T q : Nat) (bv : Value) (l : List Int) (s y z : Nat → Int) (w : World) (hd : (Dig g T s y z q 32).In w) (hq : q < 32) (hgb : g < base) (hbase : base ≤ w.heap.size) (HO : Kd.R (Kd.int .u8) 5 w base (fun _ => True) bv l) (hl : l.length < 70368744177664) :
    Calls Tryd.prog 71 #[.pointer (some ⟨g, 0, none⟩), bv] w fun e w' => ∃ v, e = .returned v ∧ Kd.R (Kd.int .u8) 5 w' base (fun _ => True) v (l ++ sumS 32 (dgS s z q)) ∧ Below base w w' := by
  refine calls_of_wp Tryd.func71 rfl ?_
  have h0 : Has 37 (bn [g]) [(0, .p 0 0), (1, .v bv)] ⟨#[.pointer (some ⟨g, 0, none⟩), bv] ++ Array.replicate 35 undef, []⟩ := has_two (β := bn [g]) (.p 0 0) (.v bv) 35
  have M0 := dig_mw hd
  have d0 : (⟨#[.pointer (some ⟨g, 0, none⟩), bv] ++ Array.replicate 35 undef, []⟩ : Act).defers = [] := rfl
  refine wp_seq ?_
  refine regM_seq (N := 37) (T := TT) (n := 1) (E2 := [(0, .p 0 0), (1, .v bv)]) tabOk h0 M0 rfl (by kernel_rfl) ⟨by kernel_rfl, by kernel_rfl, trivial⟩ (fun a1 h1 d1 => ?_)
  show Code.wp _ _ _ _ _
  replace d1 := d1.trans d0
  clear h0 d0
  refine wp_seq ?_
  refine wp_region ?_
  refine ops_ (N := 37) (M := bm [Dig g T s y z q 32]) (T := TT) (E' := (10, .v (.agg ((List.range 16).map (stm s (dgr y z q 32))).toArray)) :: (9, .p 0 0) :: (8, .p 0 0) :: (7, .p 0 0) :: [(0, .p 0 0), (1, .v bv)]) tabOk M0.mem [4, 5] [0, 1, 2, 3] (by kernel_rfl) h1 (fun a2 h2 d2 => ?_)
  refine alloc_ops (N := 37) (i := 4) (d := 5) (l := [5]) rfl rfl rfl (by decide) h2 rfl allocOk92 (fun a3 h3 d3 => ?_)
  obtain ⟨hst, hs1, F1⟩ := state_copy w s (dgr y z q 32)
  refine store_ops (N := 37) (i := 5) (l := []) (t := 92) rfl rfl rfl h3 (b := w.heap.size) (cs := ((List.range 16).map (stm s (dgr y z q 32))).toArray) (y := .tmp 10) (x := .tmp 5) rfl (h3.2 5 _ rfl) (h3.2 10 _ rfl) hst ?_
  have hd1 := hd.on F1 (by simp)
  have h4 := sub_ok (E := [(0, .p 0 0), (1, .v bv), (5, .v (.pointer (some ⟨w.heap.size, 0, none⟩)))]) h3 ⟨by kernel_rfl, by kernel_rfl, by kernel_rfl, trivial⟩
  have d4 := d3.trans (d2.trans d1)
  show Code.wp _ _ _ _ _
  clear hst h1 h2 h3 d1 d2 d3 M0
  generalize (w.alloc (.cells (Array.replicate 16 (.int .u64 0)) 92)).setRow w.heap.size ((List.range 16).map (stm s (dgr y z q 32))).toArray = W1 at hs1 F1 hd1 ⊢
  have M1 := dig_mw hd1
  have lg : g < w.heap.size := hd.lt
  refine wp_seq ?_
  refine wp_seq ?_
  refine regM_seq (N := 37) (T := TT) (n := 5) (E2 := [(0, .p 0 0), (1, .v bv), (5, .v (.pointer (some ⟨w.heap.size, 0, none⟩))), (15, .v (.bool (decide ((q : Int) > 0))))]) tabOk h4 M1 rfl (by kernel_rfl) ⟨by kernel_rfl, by kernel_rfl, by kernel_rfl, by kernel_rfl, trivial⟩ (fun a5 h5 d5 => ?_)
  show Code.wp _ _ _ _ _
  replace d5 := d5.trans d4
  clear h4 d4
  by_cases hq0 : q = 0
  · refine wp_cond_false ((h5.2 15 _ rfl).trans (congrArg Value.bool (decide_eq_false (by omega)))) ?_
    refine wp_skip ?_
    show Code.wp _ _ _ _ _
    have h6 := sub_ok (E := [(0, .p 0 0), (1, .v bv), (5, .v (.pointer (some ⟨w.heap.size, 0, none⟩)))]) h5 ⟨by kernel_rfl, by kernel_rfl, by kernel_rfl, trivial⟩
    unfold dgS
    rw [if_pos hq0]
    exact sum32_end base g T w.heap.size q bv l s y z s (dgr y z q 32) w W1 a5 hd1 hs1 hgb (Nat.le_refl _) hbase F1 HO hl h6 d5
  · refine wp_cond_true ((h5.2 15 _ rfl).trans (congrArg Value.bool (decide_eq_true (by omega)))) ?_
    have P := hb_walk w.heap.size 92 g T q 48 82 (by decide) s z (dgr y z q 32) (stm s (dgr y z q 32)) W1.drew (by omega) hq hs1 (dig_hb hd1) (by omega)
    refine reg_call_last (N := 37) (T := TT) (M := bm [Dig g T s y z q 32]) (j := 7) (l1 := [0, 1, 2, 3, 4, 5, 6]) (f := 41) (d := 23) (args := [.v (.pointer (some ⟨w.heap.size, 0, none⟩)), .p 0 48, .v (.int .i64 (q : Int))]) (E2 := [(0, .p 0 0), (1, .v bv), (5, .v (.pointer (some ⟨w.heap.size, 0, none⟩)))]) (by kernel_rfl) tabOk h5 M1.mem rfl (by kernel_rfl) (by kernel_rfl) Tryd.func41 rfl rfl (fun v W' => (⟨w.heap.size, 92, 16, stm (hb q s z) (dgr y z q 32)⟩ : Bl).In W' ∧ Fr [w.heap.size] W1 W') (P.mono fun e W' hh => ⟨_, hh.1, hh.2.1, hh.2.2⟩) ⟨by kernel_rfl, by kernel_rfl, by kernel_rfl, trivial⟩ rfl (fun _ _ _ _ hd h => And.intro (hd.trans (And.left h)) (And.right h)) (fun a6 v6 W6 h6 d6 hR => ?_)
    obtain ⟨hs6, G6⟩ := hR
    show Code.wp _ _ _ _ _
    have h7 := sub_ok (E := [(0, .p 0 0), (1, .v bv), (5, .v (.pointer (some ⟨w.heap.size, 0, none⟩)))]) h6 ⟨by kernel_rfl, by kernel_rfl, by kernel_rfl, trivial⟩
    have F6 : Fr [] w W6 := F1.comp G6 (fun k hk => by simp at hk; subst hk; right; exact Nat.le_refl _)
    unfold dgS
    rw [if_neg hq0]
    exact sum32_end base g T w.heap.size q bv l s y z (hb q s z) (dgr y z q 32) w W6 a6 (hd1.on G6 (by show g ∉ [w.heap.size]; simp; omega)) hs6 hgb (Nat.le_refl _) hbase F6 HO hl h7 (d6.trans d5)
end Go.Proofs.YtnehminojlocoaaDoor.PAll
namespace Go.Proofs.YtnehminojlocoaaDoor.PAll
open Go.RowKit Go.Proofs.YtnehminojlocoaaDoorW.PrintWords Go.Proofs.YtnehminojlocoaaDoorW.PrintLast Go.Proofs.YtnehminojlocoaaDoorW.PrintMore
set_option linter.unusedVariables false
set_option linter.unusedSimpArgs false
noncomputable def c72_4 : Code := match Tryd.f72.body with
  | some (.seq _ (.seq _ (.seq _ c))) => c
  | _ => .skip
set_option maxHeartbeats 4000000 in
set_option maxRecDepth 100000 in
theorem s64_end (g1 : Nat) (S : Nat → Int) (m : Nat → Value) (w W : World) (a : Act) (hs : (⟨g1, 92, 16, stm S m⟩ : Bl).In W) (hg1 : w.heap.size ≤ g1) (hF : Fr [] w W) (hA : Has 31 (bn []) [(3, .v (.pointer (some ⟨g1, 0, none⟩)))] a) (hd : a.defers = []) :
    Code.wp Tryd.prog c72_4 (bodyPost Tryd.prog Tryd.f72 fun e w' => e = .returned (.int .u64 (le8 (byt (add4 (mixN 4 (S)) 0 4 8 12)))) ∧ Below w.heap.size w w') a W := by
  have M0 : Mw (bn []) [] W := ⟨bg_bn _, trivial⟩
  have lW : g1 < W.heap.size := hs.lt
  have wW : w.heap.size ≤ W.heap.size := hF.size
  refine wp_seq ?_
  refine wp_region ?_
  refine alloc_ops (N := 31) (i := 0) (d := 4) (l := []) rfl rfl rfl (by decide) hA rfl allocOk97 (fun a1 hA1 hd1 => ?_)
  have F1 := (Fr.refl [] W).alloc (.cells (Array.replicate 8 (.int .u8 0)) 97)
  have hs1 := hs.on F1 (by simp)
  have hh1 := bl_rep0 W 8 (.int .u8 0) 97
  have F2 := hF.trans F1
  clear hA hs F1 hF
  show Code.wp _ _ _ _ _
  generalize hW1 : W.alloc (.cells (Array.replicate 8 (.int .u8 0)) 97) = W1 at hs1 hh1 F2 ⊢
  clear hW1
  refine wp_seq ?_
  refine wp_region ?_
  refine given_ops (N := 31) (i := 0) (v := .slice (some ⟨W.heap.size, 0, none⟩) 8 8) (l := [1]) rfl rfl rfl (by decide) hA1 (op_slice rfl ?_) (fun a2 hA2 hd2 => ?_)
  · show (Instr.sliceAt _ (a1.eval (.tmp 4)) none none none).run _ _ = _
    rw [hA1.2 4 _ rfl]
    exact arr_all 97 _ 8 Tryd.underlying97 Tryd.sizeOf5 (by decide) W1 _ 0
  have P := finalize8_walk g1 92 W.heap.size 97 8 S m (fun _ => .int .u8 0) W1 hs1 hh1 (by omega) (by decide)
  refine call_ops (N := 31) (i := 1) (d := 27) (f := 42) (args := [.v (.slice (some ⟨W.heap.size, 0, none⟩) 8 8), .v (.pointer (some ⟨g1, 0, none⟩))]) (l := []) rfl rfl rfl (by decide) hA2 Tryd.func42 rfl rfl rfl (by kernel_rfl) (fun v W' => (⟨W.heap.size, 97, 8, fin8 (mixN 4 S) (fun _ => .int .u8 0)⟩ : Bl).In W' ∧ Fr [g1, W.heap.size] W1 W') (P.mono fun e W' hh => ⟨_, hh.1, hh.2⟩) (fun v W2 a3 hR hA3 hd3 => ?_)
  obtain ⟨hh2, G2⟩ := hR
  have F3 : Fr [] w W2 := F2.comp G2 (fun k hk => by simp at hk; rcases hk with rfl | rfl <;> right <;> omega)
  have d3 : a3.defers = [] := hd3.trans (hd2.trans (hd1.trans hd))
  clear P G2 F2 hs1 hh1 hd1 hd2 hd3
  show Code.wp _ _ _ _ _
  refine wp_seq ?_
  have h4 := has_list (β := bg [⟨W.heap.size, 97, 8, fin8 (mixN 4 S) (fun _ => .int .u8 0)⟩]) (a := a3) hA3.1 (E := [(4, .p 0 0)]) ⟨hA3.2 4 _ rfl, trivial⟩
  have M4 : Mw (bg [⟨W.heap.size, 97, 8, fin8 (mixN 4 S) (fun _ => .int .u8 0)⟩]) [⟨W.heap.size, 97, 8, fin8 (mixN 4 S) (fun _ => .int .u8 0)⟩] W2 := ⟨rfl, hh2, by simp, trivial⟩
  refine reg_call_keep (S := fun V => Mw (bg [⟨W.heap.size, 97, 8, fin8 (mixN 4 S) (fun _ => .int .u8 0)⟩]) [⟨W.heap.size, 97, 8, fin8 (mixN 4 S) (fun _ => .int .u8 0)⟩] V ∧ Fr [] w V) (N := 31) (T := TT) (M := bm [⟨W.heap.size, 97, 8, fin8 (mixN 4 S) (fun _ => .int .u8 0)⟩]) (l1 := [0, 1]) (j := 2) (l2 := [3]) (f := 43) (d := 30) (v := .int .u64 (le8 (byt (add4 (mixN 4 S) 0 4 8 12)))) (args := [.v (.agg #[]), .s 0 0 8 8]) (E2 := [(2, .v (.int .u64 (le8 (byt (add4 (mixN 4 S) 0 4 8 12)))))]) (by kernel_rfl) tabOk (fun V h => h.1.mem) h4 ⟨M4.drew, F3.drew⟩ rfl (by kernel_rfl) (by kernel_rfl) Tryd.func43 rfl rfl
    (fun V hV => (u64_walk W.heap.size 0 8 8 (by decide) (byt (add4 (mixN 4 S) 0 4 8 12)) V (fun i hi => by
      rw [Nat.zero_add, (hV.1.2.get (k := 0) rfl).cell i hi]
      show some (fin8 (mixN 4 S) (fun _ => .int .u8 0) i) = _
      unfold fin8 putB
      rw [if_pos (by omega)]
      rfl)).mono fun e V' hh => ⟨hh.1, hV.1.onB hh.2, hV.2.trans (Fr.ofBelow [] hh.2)⟩) (by kernel_rfl) ⟨by kernel_rfl, trivial⟩ (fun _ _ _ _ hd h => And.intro (hd.trans (And.left h)) (And.right h)) (fun a5 W5 h5 d5 hV => ?_)
  show Code.wp _ _ _ _ _
  refine wp_ret ?_
  refine ⟨d5.trans d3, _, results_tmp rfl _ _ _, ?_, hV.2.below _ (Nat.le_refl _) (by simp)⟩
  exact congrArg Ending.returned (h5.2 2 _ rfl)
set_option maxHeartbeats 4000000 in
set_option maxRecDepth 100000 in
theorem sum64_dig (g T q sz : Nat) (s y z : Nat → Int) (w : World) (hd : (Dig g T s y z q sz).In w) (hq : q < 32) :
    Calls Tryd.prog 72 #[.pointer (some ⟨g, 0, none⟩)] w fun e w' => e = .returned (.int .u64 (le8 (byt (add4 (mixN 4 (dgS s z q)) 0 4 8 12)))) ∧ Below w.heap.size w w' := by
  refine calls_of_wp Tryd.func72 rfl ?_
  have h0 : Has 31 (bn [g]) [(0, .p 0 0)] ⟨#[.pointer (some ⟨g, 0, none⟩)] ++ Array.replicate 30 undef, []⟩ := has_one (β := bn [g]) (.p 0 0) 30
  have M0 := dig_mw hd
  have d0 : (⟨#[.pointer (some ⟨g, 0, none⟩)] ++ Array.replicate 30 undef, []⟩ : Act).defers = [] := rfl
  refine wp_seq ?_
  refine regM_seq (N := 31) (T := TT) (n := 1) (E2 := [(0, .p 0 0)]) tabOk h0 M0 rfl (by kernel_rfl) ⟨by kernel_rfl, trivial⟩ (fun a1 h1 d1 => ?_)
  show Code.wp _ _ _ _ _
  replace d1 := d1.trans d0
  clear h0 d0
  refine wp_seq ?_
  refine wp_region ?_
  refine ops_ (N := 31) (M := bm [Dig g T s y z q sz]) (T := TT) (E' := (9, .v (.agg ((List.range 16).map (stm s (dgr y z q sz))).toArray)) :: (8, .p 0 0) :: (7, .p 0 0) :: (6, .p 0 0) :: (5, .p 0 0) :: [(0, .p 0 0)]) tabOk M0.mem [5, 6] [0, 1, 2, 3, 4] (by kernel_rfl) h1 (fun a2 h2 d2 => ?_)
  refine alloc_ops (N := 31) (i := 5) (d := 3) (l := [6]) rfl rfl rfl (by decide) h2 rfl allocOk92 (fun a3 h3 d3 => ?_)
  obtain ⟨hst, hs1, F1⟩ := state_copy w s (dgr y z q sz)
  refine store_ops (N := 31) (i := 6) (l := []) (t := 92) rfl rfl rfl h3 (b := w.heap.size) (cs := ((List.range 16).map (stm s (dgr y z q sz))).toArray) (y := .tmp 9) (x := .tmp 3) rfl (h3.2 3 _ rfl) (h3.2 9 _ rfl) hst ?_
  have hd1 := hd.on F1 (by simp)
  have h4 := sub_ok (E := [(0, .p 0 0), (3, .v (.pointer (some ⟨w.heap.size, 0, none⟩)))]) h3 ⟨by kernel_rfl, by kernel_rfl, trivial⟩
  have d4 := d3.trans (d2.trans d1)
  show Code.wp _ _ _ _ _
  clear hst h1 h2 h3 d1 d2 d3 M0
  generalize (w.alloc (.cells (Array.replicate 16 (.int .u64 0)) 92)).setRow w.heap.size ((List.range 16).map (stm s (dgr y z q sz))).toArray = W1 at hs1 F1 hd1 ⊢
  have M1 := dig_mw hd1
  have lg : g < w.heap.size := hd.lt
  refine wp_seq ?_
  refine wp_seq ?_
  refine regM_seq (N := 31) (T := TT) (n := 6) (E2 := [(0, .p 0 0), (3, .v (.pointer (some ⟨w.heap.size, 0, none⟩))), (15, .v (.bool (decide ((q : Int) > 0))))]) tabOk h4 M1 rfl (by kernel_rfl) ⟨by kernel_rfl, by kernel_rfl, by kernel_rfl, trivial⟩ (fun a5 h5 d5 => ?_)
  show Code.wp _ _ _ _ _
  replace d5 := d5.trans d4
  clear h4 d4
  by_cases hq0 : q = 0
  · refine wp_cond_false ((h5.2 15 _ rfl).trans (congrArg Value.bool (decide_eq_false (by omega)))) ?_
    refine wp_skip ?_
    show Code.wp _ _ _ _ _
    have h6 := has_list (β := bn []) (a := a5) h5.1 (E := [(3, .v (.pointer (some ⟨w.heap.size, 0, none⟩)))]) ⟨h5.2 3 _ rfl, trivial⟩
    unfold dgS
    rw [if_pos hq0]
    exact s64_end w.heap.size s (dgr y z q sz) w W1 a5 hs1 (Nat.le_refl _) F1 h6 d5
  · refine wp_cond_true ((h5.2 15 _ rfl).trans (congrArg Value.bool (decide_eq_true (by omega)))) ?_
    have P := hb_walk w.heap.size 92 g T q 48 82 (by decide) s z (dgr y z q sz) (stm s (dgr y z q sz)) W1.drew (by omega) hq hs1 (dig_hb hd1) (by omega)
    refine reg_call_last (N := 31) (T := TT) (M := bm [Dig g T s y z q sz]) (j := 9) (l1 := [0, 1, 2, 3, 4, 5, 6, 7, 8]) (f := 41) (d := 25) (args := [.v (.pointer (some ⟨w.heap.size, 0, none⟩)), .p 0 48, .v (.int .i64 (q : Int))]) (E2 := [(0, .p 0 0), (3, .v (.pointer (some ⟨w.heap.size, 0, none⟩)))]) (by kernel_rfl) tabOk h5 M1.mem rfl (by kernel_rfl) (by kernel_rfl) Tryd.func41 rfl rfl (fun v W' => (⟨w.heap.size, 92, 16, stm (hb q s z) (dgr y z q sz)⟩ : Bl).In W' ∧ Fr [w.heap.size] W1 W') (P.mono fun e W' hh => ⟨_, hh.1, hh.2.1, hh.2.2⟩) ⟨by kernel_rfl, by kernel_rfl, trivial⟩ rfl (fun _ _ _ _ hd h => And.intro (hd.trans (And.left h)) (And.right h)) (fun a6 v6 W6 h6 d6 hR => ?_)
    obtain ⟨hs6, G6⟩ := hR
    show Code.wp _ _ _ _ _
    have h7 := has_list (β := bn []) (a := a6) h6.1 (E := [(3, .v (.pointer (some ⟨w.heap.size, 0, none⟩)))]) ⟨h6.2 3 _ rfl, trivial⟩
    have F6 : Fr [] w W6 := F1.comp G6 (fun k hk => by simp at hk; subst hk; right; exact Nat.le_refl _)
    unfold dgS
    rw [if_neg hq0]
    exact s64_end w.heap.size (hb q s z) (dgr y z q sz) w W6 a6 hs6 (Nat.le_refl _) F6 h7 (d6.trans d5)
def nz (_ : Nat) : Int := 0
theorem new_dig (T : TypeId) (sz : Nat) (cs : Array Value) (h : cs.setIfInBounds 81 (.int .i64 (sz : Int)) = ((List.range 82).map (stm nz (dgr nz nz 0 sz))).toArray) (w : World) : (Dig w.heap.size T nz nz nz 0 sz).In (w.alloc (.cells (cs.setIfInBounds 81 (.int .i64 (sz : Int))) T)) := by
  refine ⟨_, (MapKept.heap_alloc w _).1, ?_, fun i hi => ?_⟩
  · rw [h]
    show (List.map _ (List.range 82)).toArray.size = 82
    simp
  · have hi' : i < 82 := hi
    rw [h, List.getElem?_toArray, List.getElem?_map, List.getElem?_range hi']
    rfl
theorem cp_key (s z : Nat → Int) (y0 y : Nat → Int) (q sz : Nat) : cpB (stm s (dgr y0 z q sz)) 16 32 (fun j => .int .u8 (y j)) = stm s (dgr y z q sz) := by
  funext i
  unfold cpB stm dgr
  by_cases h1 : 16 ≤ i ∧ i < 16 + 32
  · rw [if_pos h1, if_neg (by omega), if_pos (by omega)]
  · rw [if_neg h1]
    split
    · rfl
    · simp only [if_neg (show ¬ i < 48 by omega)]
theorem dig_cpk {g : Nat} {T : TypeId} {s y0 z : Nat → Int} {q sz : Nat} {W : World} (h : (Dig g T s y0 z q sz).In W) (b o c : Nat) (y : Nat → Int) (hy : Bts b o 32 y W) (ty : TypeId) :
    ∃ W', (Builtin.copy_ #[22, 22] ty #[.slice (some ⟨g, 16, none⟩) 32 32, .slice (some ⟨b, o, none⟩) 32 c]).run Tryd.prog W = .ok (goInt 32) W' ∧ (Dig g T s y z q sz).In W' ∧ Fr [g] W W' := by
  obtain ⟨W', h1, h2, h3⟩ := copy_in (P := Tryd.prog) h 16 32 32 b o 32 c 32 (fun j => .int .u8 (y j)) rfl (show 16 + 32 ≤ 82 by decide) hy (fun _ _ => rfl) 22 22 ty 5 Tryd.underlying22 (by kernel_rfl)
  refine ⟨W', h1, ?_, h3⟩
  have e : cpB (Dig g T s y0 z q sz).m 16 32 (fun j => .int .u8 (y j)) = stm s (dgr y z q sz) := cp_key s z y0 y q sz
  rw [e] at h2
  exact h2
set_option maxHeartbeats 4000000 in
set_option maxRecDepth 100000 in
theorem dig64_val (kb ko c : Nat) (y : Nat → Int) (w : World) (hy : Bts kb ko 32 y w) :
    Calls Tryd.prog 30 #[.slice (some ⟨kb, ko, none⟩) 32 c] w fun e w' => ∃ g, e = .returned (.tuple #[.pointer (some ⟨g, 0, none⟩), .nilIface]) ∧ (Dig g 104 (ini (keyN y)) y nz 0 8).In w' ∧ w.heap.size ≤ g ∧ Below w.heap.size w w' := by
  have HK := Lib.hid hy
  clear hy
  go_enter Tryd.func30, Tryd.ntmps30
  have DD : (Dig w.heap.size 104 nz nz nz 0 8).In (w.alloc (.cells (Tryd.zeroCells104.setIfInBounds 81 (.int .i64 8)) 104)) := new_dig 104 8 _ (by kernel_rfl) w
  have BW : Below w.heap.size w (w.alloc (.cells (Tryd.zeroCells104.setIfInBounds 81 (.int .i64 8)) 104)) := (Below.refl _ _).alloc (Nat.le_refl _) _
  obtain ⟨W', hcp, DD1, hF1⟩ := dig_cpk DD kb ko c y (HK.out.onB BW) 3
  have E1 := Lib.hid (And.intro DD1 (BW.trans (hF1.below w.heap.size BW.size (by simp))))
  clear DD DD1 hF1 BW
  go_wp2_with fail
  refine (reset_walk _ _ _ _ _ _ _ _ E1.out.1).mono ?_
  rintro e w2 ⟨rfl, DD2, FW2⟩
  have E2 := Lib.hid (And.intro DD2 (E1.out.2.trans (FW2.below w.heap.size E1.out.2.size (by simp))))
  clear DD2 FW2 E1 hcp
  go_wp2_with fail
  go_ret2
  exact ⟨_, rfl, E2.out.1, Nat.le_refl _, E2.out.2⟩
set_option maxHeartbeats 4000000 in
set_option maxRecDepth 100000 in
theorem dig128_val (kb ko c : Nat) (y : Nat → Int) (w : World) (hy : Bts kb ko 32 y w) :
    Calls Tryd.prog 32 #[.slice (some ⟨kb, ko, none⟩) 32 c] w fun e w' => ∃ g, e = .returned (.tuple #[.pointer (some ⟨g, 0, none⟩), .nilIface]) ∧ (Dig g 102 (ini (keyN y)) y nz 0 16).In w' ∧ w.heap.size ≤ g ∧ Below w.heap.size w w' := by
  have HK := Lib.hid hy
  clear hy
  go_enter Tryd.func32, Tryd.ntmps32
  have DD : (Dig w.heap.size 102 nz nz nz 0 16).In (w.alloc (.cells (Tryd.zeroCells102.setIfInBounds 81 (.int .i64 16)) 102)) := new_dig 102 16 _ (by kernel_rfl) w
  have BW : Below w.heap.size w (w.alloc (.cells (Tryd.zeroCells102.setIfInBounds 81 (.int .i64 16)) 102)) := (Below.refl _ _).alloc (Nat.le_refl _) _
  obtain ⟨W', hcp, DD1, hF1⟩ := dig_cpk DD kb ko c y (HK.out.onB BW) 3
  have E1 := Lib.hid (And.intro DD1 (BW.trans (hF1.below w.heap.size BW.size (by simp))))
  clear DD DD1 hF1 BW
  go_wp2_with fail
  refine (reset_walk _ _ _ _ _ _ _ _ E1.out.1).mono ?_
  rintro e w2 ⟨rfl, DD2, FW2⟩
  have E2 := Lib.hid (And.intro DD2 (E1.out.2.trans (FW2.below w.heap.size E1.out.2.size (by simp))))
  clear DD2 FW2 E1 hcp
  go_wp2_with fail
  go_ret2
  exact ⟨_, rfl, E2.out.1, Nat.le_refl _, E2.out.2⟩
set_option maxHeartbeats 4000000 in
set_option maxRecDepth 100000 in
theorem dig_val (kb ko c : Nat) (y : Nat → Int) (w : World) (hy : Bts kb ko 32 y w) :
    Calls Tryd.prog 34 #[.slice (some ⟨kb, ko, none⟩) 32 c] w fun e w' => ∃ g, e = .returned (.tuple #[.pointer (some ⟨g, 0, none⟩), .nilIface]) ∧ (Dig g 102 (ini (keyN y)) y nz 0 32).In w' ∧ w.heap.size ≤ g ∧ Below w.heap.size w w' := by
  have HK := Lib.hid hy
  clear hy
  go_enter Tryd.func34, Tryd.ntmps34
  have DD : (Dig w.heap.size 102 nz nz nz 0 32).In (w.alloc (.cells (Tryd.zeroCells102.setIfInBounds 81 (.int .i64 32)) 102)) := new_dig 102 32 _ (by kernel_rfl) w
  have BW : Below w.heap.size w (w.alloc (.cells (Tryd.zeroCells102.setIfInBounds 81 (.int .i64 32)) 102)) := (Below.refl _ _).alloc (Nat.le_refl _) _
  obtain ⟨W', hcp, DD1, hF1⟩ := dig_cpk DD kb ko c y (HK.out.onB BW) 3
  have E1 := Lib.hid (And.intro DD1 (BW.trans (hF1.below w.heap.size BW.size (by simp))))
  clear DD DD1 hF1 BW
  go_wp2_with fail
  refine (reset_walk _ _ _ _ _ _ _ _ E1.out.1).mono ?_
  rintro e w2 ⟨rfl, DD2, FW2⟩
  have E2 := Lib.hid (And.intro DD2 (E1.out.2.trans (FW2.below w.heap.size E1.out.2.size (by simp))))
  clear DD2 FW2 E1 hcp
  go_wp2_with fail
  go_ret2
  exact ⟨_, rfl, E2.out.1, Nat.le_refl _, E2.out.2⟩
set_option maxHeartbeats 4000000 in
set_option maxRecDepth 100000 in
theorem new64_val (kb ko c : Nat) (y : Nat → Int) (w : World) (hy : Bts kb ko 32 y w) :
    Calls Tryd.prog 31 #[.slice (some ⟨kb, ko, none⟩) 32 c] w fun e w' => ∃ g, e = .returned (.tuple #[.iface 73 (.pointer (some ⟨g, 0, none⟩)), .nilIface]) ∧ (Dig g 104 (ini (keyN y)) y nz 0 8).In w' ∧ w.heap.size ≤ g ∧ Below w.heap.size w w' := by
  have HK := Lib.hid hy
  clear hy
  go_enter Tryd.func31, Tryd.ntmps31
  go_wp2_with fail
  refine (dig64_val kb ko c y _ HK.out).mono ?_
  rintro e w1 ⟨g, rfl, hd⟩
  have HB := Lib.hid hd
  clear HK hd
  go_wp2_with fail
  go_ret2
  exact ⟨_, rfl, HB.out⟩
set_option maxHeartbeats 4000000 in
set_option maxRecDepth 100000 in
theorem new128_val (kb ko c : Nat) (y : Nat → Int) (w : World) (hy : Bts kb ko 32 y w) :
    Calls Tryd.prog 33 #[.slice (some ⟨kb, ko, none⟩) 32 c] w fun e w' => ∃ g, e = .returned (.tuple #[.iface 80 (.pointer (some ⟨g, 0, none⟩)), .nilIface]) ∧ (Dig g 102 (ini (keyN y)) y nz 0 16).In w' ∧ w.heap.size ≤ g ∧ Below w.heap.size w w' := by
  have HK := Lib.hid hy
  clear hy
  go_enter Tryd.func33, Tryd.ntmps33
  go_wp2_with fail
  refine (dig128_val kb ko c y _ HK.out).mono ?_
  rintro e w1 ⟨g, rfl, hd⟩
  have HB := Lib.hid hd
  clear HK hd
  go_wp2_with fail
  go_ret2
  exact ⟨_, rfl, HB.out⟩
set_option maxHeartbeats 4000000 in
set_option maxRecDepth 100000 in
theorem new_val (kb ko c : Nat) (y : Nat → Int) (w : World) (hy : Bts kb ko 32 y w) :
    Calls Tryd.prog 35 #[.slice (some ⟨kb, ko, none⟩) 32 c] w fun e w' => ∃ g, e = .returned (.tuple #[.iface 80 (.pointer (some ⟨g, 0, none⟩)), .nilIface]) ∧ (Dig g 102 (ini (keyN y)) y nz 0 32).In w' ∧ w.heap.size ≤ g ∧ Below w.heap.size w w' := by
  have HK := Lib.hid hy
  clear hy
  go_enter Tryd.func35, Tryd.ntmps35
  go_wp2_with fail
  refine (dig_val kb ko c y _ HK.out).mono ?_
  rintro e w1 ⟨g, rfl, hd⟩
  have HB := Lib.hid hd
  clear HK hd
  go_wp2_with fail
  go_ret2
  exact ⟨_, rfl, HB.out⟩
set_option maxHeartbeats 4000000 in
set_option maxRecDepth 100000 in
theorem high8t_val (A : Option Addr) (c : Nat) (l : List Int) (w : World) (hC : Kd.C (Kd.int .u8) w A l.length l) (hl : l.length ≤ c) (h32 : l.length = 32) :
    Calls Tryd.prog 15 #[.int .i64 8, .slice A l.length c, .bool true] w fun e w' => ∃ g, e = .returned (.tuple #[.iface 73 (.pointer (some ⟨g, 0, none⟩)), .bool true]) ∧ (Dig g 104 (ini (keyN (lx l))) (lx l) nz 0 8).In w' ∧ w.heap.size ≤ g ∧ Below w.heap.size w w' := by
  have HH := Lib.hid (And.intro hC (And.intro hl (And.intro (own_law l (by omega)) h32)))
  clear hC hl h32
  go_enter Tryd.func15, Tryd.ntmps15
  go_wp2_with fail
  obtain ⟨hC, hl, ho, h32⟩ := id HH
  refine (impl_own.calls A c l l w hC hl ho).mono ?_
  rintro e w1 ⟨v0, rfl, hR, hb⟩
  obtain ⟨A1, c1, b1, rfl, hc1, hA1, hx1⟩ := R_bts hR
  obtain rfl := hA1 (by omega)
  have HB := Lib.hid (And.intro hb hx1)
  clear hR hC hl ho HH hb hx1 hA1
  simp only [h32] at HB ⊢
  go_wp2_with fail
  refine (dig64_val b1 0 c1 (lx l) _ HB.out.2).mono ?_
  rintro e w2 ⟨g, rfl, hd, hg, hb2⟩
  have HB2 := Lib.hid (And.intro hd (And.intro (Nat.le_trans HB.out.1.size hg) (HB.out.1.trans (hb2.mono HB.out.1.size))))
  clear hb2 HB hd hg
  go_wp2_with fail
  refine start_ (n := 5) (S := fun w' => True) (ds := []) #[false, false, false, false, false] (by kernel_rfl) rfl rfl trivial (fun hHeld => ?_)
  refine pure_ (i := 0) (N := some 72) (v := ?_) (a' := ?_) #[true, false, false, false, false] rfl rfl (by kernel_rfl) (fun _ _ _ h => h) (Or.inl ⟨by rfl, ?_⟩) ?_ ?_
  rotate_left
  · intro w'
    go_simp
    with_reducible rfl
  rotate_left
  · simp only [Act.put, List.setIfInBounds_toArray, List.set_cons_zero, List.set_cons_succ, i64_w, i32_w]
    rfl
  refine pure_ (i := 1) (N := some 73) (v := ?_) (a' := ?_) #[true, true, false, false, false] rfl rfl (by kernel_rfl) (fun _ _ _ h => h) (Or.inl ⟨by rfl, ?_⟩) ?_ ?_
  rotate_left
  · intro w'
    go_simp
    with_reducible rfl
  rotate_left
  · simp only [Act.put, List.setIfInBounds_toArray, List.set_cons_zero, List.set_cons_succ, i64_w, i32_w]
    rfl
  refine pure_ (i := 2) (N := some 74) (v := ?_) (a' := ?_) #[true, true, true, false, false] rfl rfl (by kernel_rfl) (fun _ _ _ h => h) (Or.inl ⟨by rfl, ?_⟩) ?_ ?_
  rotate_left
  · intro w'
    go_simp
    with_reducible rfl
  rotate_left
  · simp only [Act.put, List.setIfInBounds_toArray, List.set_cons_zero, List.set_cons_succ, i64_w, i32_w]
    rfl
  refine pure_ (i := 3) (N := some 6) (v := ?_) (a' := ?_) #[true, true, true, true, false] rfl rfl (by kernel_rfl) (fun _ _ _ h => h) (Or.inl ⟨by rfl, ?_⟩) ?_ ?_
  rotate_left
  · intro w'
    go_simp
    with_reducible rfl
  rotate_left
  · simp only [Act.put, List.setIfInBounds_toArray, List.set_cons_zero, List.set_cons_succ, i64_w, i32_w]
    rfl
  refine pure_ (i := 4) (N := some 7) (v := ?_) (a' := ?_) #[true, true, true, true, true] rfl rfl (by kernel_rfl) (fun _ _ _ h => h) (Or.inl ⟨by rfl, ?_⟩) ?_ ?_
  rotate_left
  · intro w'
    go_simp
    with_reducible rfl
  rotate_left
  · simp only [Act.put, List.setIfInBounds_toArray, List.set_cons_zero, List.set_cons_succ, i64_w, i32_w]
    rfl
  refine done_ (by kernel_rfl) ?_
  go_wp2_with fail
  go_ret2
  exact ⟨_, rfl, HB2.out.1, HB2.out.2.1, HB2.out.2.2.drew⟩
set_option maxHeartbeats 4000000 in
set_option maxRecDepth 100000 in
theorem high8f_val (A : Option Addr) (c : Nat) (l : List Int) (w : World) (hC : Kd.C (Kd.int .u8) w A l.length l) (hl : l.length ≤ c) (h32 : l.length = 32) :
    Calls Tryd.prog 15 #[.int .i64 8, .slice A l.length c, .bool false] w fun e w' => ∃ g, e = .returned (.tuple #[.iface 73 (.pointer (some ⟨g, 0, none⟩)), .bool true]) ∧ (Dig g 104 (ini (keyN (lx l))) (lx l) nz 0 8).In w' ∧ w.heap.size ≤ g ∧ Below w.heap.size w w' := by
  have HH := Lib.hid (And.intro hC (And.intro hl (And.intro (own_law l (by omega)) h32)))
  clear hC hl h32
  go_enter Tryd.func15, Tryd.ntmps15
  go_wp2_with fail
  obtain ⟨hC, hl, ho, h32⟩ := id HH
  refine (impl_own.calls A c l l w hC hl ho).mono ?_
  rintro e w1 ⟨v0, rfl, hR, hb⟩
  obtain ⟨A1, c1, b1, rfl, hc1, hA1, hx1⟩ := R_bts hR
  obtain rfl := hA1 (by omega)
  have HB := Lib.hid (And.intro hb hx1)
  clear hR hC hl ho HH hb hx1 hA1
  simp only [h32] at HB ⊢
  go_wp2_with fail
  refine (new64_val b1 0 c1 (lx l) _ HB.out.2).mono ?_
  rintro e w2 ⟨g, rfl, hd, hg, hb2⟩
  have HB2 := Lib.hid (And.intro hd (And.intro (Nat.le_trans HB.out.1.size hg) (HB.out.1.trans (hb2.mono HB.out.1.size))))
  clear hb2 HB hd hg
  go_wp2_with fail
  refine start_ (n := 5) (S := fun w' => True) (ds := []) #[false, false, false, false, false] (by kernel_rfl) rfl rfl trivial (fun hHeld => ?_)
  refine pure_ (i := 0) (N := some 72) (v := ?_) (a' := ?_) #[true, false, false, false, false] rfl rfl (by kernel_rfl) (fun _ _ _ h => h) (Or.inl ⟨by rfl, ?_⟩) ?_ ?_
  rotate_left
  · intro w'
    go_simp
    with_reducible rfl
  rotate_left
  · simp only [Act.put, List.setIfInBounds_toArray, List.set_cons_zero, List.set_cons_succ, i64_w, i32_w]
    rfl
  refine pure_ (i := 1) (N := some 73) (v := ?_) (a' := ?_) #[true, true, false, false, false] rfl rfl (by kernel_rfl) (fun _ _ _ h => h) (Or.inl ⟨by rfl, ?_⟩) ?_ ?_
  rotate_left
  · intro w'
    go_simp
    with_reducible rfl
  rotate_left
  · simp only [Act.put, List.setIfInBounds_toArray, List.set_cons_zero, List.set_cons_succ, i64_w, i32_w]
    rfl
  refine pure_ (i := 2) (N := some 74) (v := ?_) (a' := ?_) #[true, true, true, false, false] rfl rfl (by kernel_rfl) (fun _ _ _ h => h) (Or.inl ⟨by rfl, ?_⟩) ?_ ?_
  rotate_left
  · intro w'
    go_simp
    with_reducible rfl
  rotate_left
  · simp only [Act.put, List.setIfInBounds_toArray, List.set_cons_zero, List.set_cons_succ, i64_w, i32_w]
    rfl
  refine pure_ (i := 3) (N := some 6) (v := ?_) (a' := ?_) #[true, true, true, true, false] rfl rfl (by kernel_rfl) (fun _ _ _ h => h) (Or.inl ⟨by rfl, ?_⟩) ?_ ?_
  rotate_left
  · intro w'
    go_simp
    with_reducible rfl
  rotate_left
  · simp only [Act.put, List.setIfInBounds_toArray, List.set_cons_zero, List.set_cons_succ, i64_w, i32_w]
    rfl
  refine pure_ (i := 4) (N := some 7) (v := ?_) (a' := ?_) #[true, true, true, true, true] rfl rfl (by kernel_rfl) (fun _ _ _ h => h) (Or.inl ⟨by rfl, ?_⟩) ?_ ?_
  rotate_left
  · intro w'
    go_simp
    with_reducible rfl
  rotate_left
  · simp only [Act.put, List.setIfInBounds_toArray, List.set_cons_zero, List.set_cons_succ, i64_w, i32_w]
    rfl
  refine done_ (by kernel_rfl) ?_
  go_wp2_with fail
  go_ret2
  exact ⟨_, rfl, HB2.out.1, HB2.out.2.1, HB2.out.2.2.drew⟩
set_option maxHeartbeats 4000000 in
set_option maxRecDepth 100000 in
theorem high16t_val (A : Option Addr) (c : Nat) (l : List Int) (w : World) (hC : Kd.C (Kd.int .u8) w A l.length l) (hl : l.length ≤ c) (h32 : l.length = 32) :
    Calls Tryd.prog 15 #[.int .i64 16, .slice A l.length c, .bool true] w fun e w' => ∃ g, e = .returned (.tuple #[.iface 80 (.pointer (some ⟨g, 0, none⟩)), .bool true]) ∧ (Dig g 102 (ini (keyN (lx l))) (lx l) nz 0 16).In w' ∧ w.heap.size ≤ g ∧ Below w.heap.size w w' := by
  have HH := Lib.hid (And.intro hC (And.intro hl (And.intro (own_law l (by omega)) h32)))
  clear hC hl h32
  go_enter Tryd.func15, Tryd.ntmps15
  go_wp2_with fail
  obtain ⟨hC, hl, ho, h32⟩ := id HH
  refine (impl_own.calls A c l l w hC hl ho).mono ?_
  rintro e w1 ⟨v0, rfl, hR, hb⟩
  obtain ⟨A1, c1, b1, rfl, hc1, hA1, hx1⟩ := R_bts hR
  obtain rfl := hA1 (by omega)
  have HB := Lib.hid (And.intro hb hx1)
  clear hR hC hl ho HH hb hx1 hA1
  simp only [h32] at HB ⊢
  go_wp2_with fail
  refine (dig128_val b1 0 c1 (lx l) _ HB.out.2).mono ?_
  rintro e w2 ⟨g, rfl, hd, hg, hb2⟩
  have HB2 := Lib.hid (And.intro hd (And.intro (Nat.le_trans HB.out.1.size hg) (HB.out.1.trans (hb2.mono HB.out.1.size))))
  clear hb2 HB hd hg
  go_wp2_with fail
  refine start_ (n := 5) (S := fun w' => True) (ds := []) #[false, false, false, false, false] (by kernel_rfl) rfl rfl trivial (fun hHeld => ?_)
  refine pure_ (i := 0) (N := some 72) (v := ?_) (a' := ?_) #[true, false, false, false, false] rfl rfl (by kernel_rfl) (fun _ _ _ h => h) (Or.inl ⟨by rfl, ?_⟩) ?_ ?_
  rotate_left
  · intro w'
    go_simp
    with_reducible rfl
  rotate_left
  · simp only [Act.put, List.setIfInBounds_toArray, List.set_cons_zero, List.set_cons_succ, i64_w, i32_w]
    rfl
  refine pure_ (i := 1) (N := some 73) (v := ?_) (a' := ?_) #[true, true, false, false, false] rfl rfl (by kernel_rfl) (fun _ _ _ h => h) (Or.inl ⟨by rfl, ?_⟩) ?_ ?_
  rotate_left
  · intro w'
    go_simp
    with_reducible rfl
  rotate_left
  · simp only [Act.put, List.setIfInBounds_toArray, List.set_cons_zero, List.set_cons_succ, i64_w, i32_w]
    rfl
  refine pure_ (i := 2) (N := some 74) (v := ?_) (a' := ?_) #[true, true, true, false, false] rfl rfl (by kernel_rfl) (fun _ _ _ h => h) (Or.inl ⟨by rfl, ?_⟩) ?_ ?_
  rotate_left
  · intro w'
    go_simp
    with_reducible rfl
  rotate_left
  · simp only [Act.put, List.setIfInBounds_toArray, List.set_cons_zero, List.set_cons_succ, i64_w, i32_w]
    rfl
  refine pure_ (i := 3) (N := some 6) (v := ?_) (a' := ?_) #[true, true, true, true, false] rfl rfl (by kernel_rfl) (fun _ _ _ h => h) (Or.inl ⟨by rfl, ?_⟩) ?_ ?_
  rotate_left
  · intro w'
    go_simp
    with_reducible rfl
  rotate_left
  · simp only [Act.put, List.setIfInBounds_toArray, List.set_cons_zero, List.set_cons_succ, i64_w, i32_w]
    rfl
  refine pure_ (i := 4) (N := some 7) (v := ?_) (a' := ?_) #[true, true, true, true, true] rfl rfl (by kernel_rfl) (fun _ _ _ h => h) (Or.inl ⟨by rfl, ?_⟩) ?_ ?_
  rotate_left
  · intro w'
    go_simp
    with_reducible rfl
  rotate_left
  · simp only [Act.put, List.setIfInBounds_toArray, List.set_cons_zero, List.set_cons_succ, i64_w, i32_w]
    rfl
  refine done_ (by kernel_rfl) ?_
  go_wp2_with fail
  go_ret2
  exact ⟨_, rfl, HB2.out.1, HB2.out.2.1, HB2.out.2.2.drew⟩
set_option maxHeartbeats 4000000 in
set_option maxRecDepth 100000 in
theorem high16f_val (A : Option Addr) (c : Nat) (l : List Int) (w : World) (hC : Kd.C (Kd.int .u8) w A l.length l) (hl : l.length ≤ c) (h32 : l.length = 32) :
    Calls Tryd.prog 15 #[.int .i64 16, .slice A l.length c, .bool false] w fun e w' => ∃ g, e = .returned (.tuple #[.iface 80 (.pointer (some ⟨g, 0, none⟩)), .bool true]) ∧ (Dig g 102 (ini (keyN (lx l))) (lx l) nz 0 16).In w' ∧ w.heap.size ≤ g ∧ Below w.heap.size w w' := by
  have HH := Lib.hid (And.intro hC (And.intro hl (And.intro (own_law l (by omega)) h32)))
  clear hC hl h32
  go_enter Tryd.func15, Tryd.ntmps15
  go_wp2_with fail
  obtain ⟨hC, hl, ho, h32⟩ := id HH
  refine (impl_own.calls A c l l w hC hl ho).mono ?_
  rintro e w1 ⟨v0, rfl, hR, hb⟩
  obtain ⟨A1, c1, b1, rfl, hc1, hA1, hx1⟩ := R_bts hR
  obtain rfl := hA1 (by omega)
  have HB := Lib.hid (And.intro hb hx1)
  clear hR hC hl ho HH hb hx1 hA1
  simp only [h32] at HB ⊢
  go_wp2_with fail
  refine (new128_val b1 0 c1 (lx l) _ HB.out.2).mono ?_
  rintro e w2 ⟨g, rfl, hd, hg, hb2⟩
  have HB2 := Lib.hid (And.intro hd (And.intro (Nat.le_trans HB.out.1.size hg) (HB.out.1.trans (hb2.mono HB.out.1.size))))
  clear hb2 HB hd hg
  go_wp2_with fail
  refine start_ (n := 5) (S := fun w' => True) (ds := []) #[false, false, false, false, false] (by kernel_rfl) rfl rfl trivial (fun hHeld => ?_)
  refine pure_ (i := 0) (N := some 72) (v := ?_) (a' := ?_) #[true, false, false, false, false] rfl rfl (by kernel_rfl) (fun _ _ _ h => h) (Or.inl ⟨by rfl, ?_⟩) ?_ ?_
  rotate_left
  · intro w'
    go_simp
    with_reducible rfl
  rotate_left
  · simp only [Act.put, List.setIfInBounds_toArray, List.set_cons_zero, List.set_cons_succ, i64_w, i32_w]
    rfl
  refine pure_ (i := 1) (N := some 73) (v := ?_) (a' := ?_) #[true, true, false, false, false] rfl rfl (by kernel_rfl) (fun _ _ _ h => h) (Or.inl ⟨by rfl, ?_⟩) ?_ ?_
  rotate_left
  · intro w'
    go_simp
    with_reducible rfl
  rotate_left
  · simp only [Act.put, List.setIfInBounds_toArray, List.set_cons_zero, List.set_cons_succ, i64_w, i32_w]
    rfl
  refine pure_ (i := 2) (N := some 74) (v := ?_) (a' := ?_) #[true, true, true, false, false] rfl rfl (by kernel_rfl) (fun _ _ _ h => h) (Or.inl ⟨by rfl, ?_⟩) ?_ ?_
  rotate_left
  · intro w'
    go_simp
    with_reducible rfl
  rotate_left
  · simp only [Act.put, List.setIfInBounds_toArray, List.set_cons_zero, List.set_cons_succ, i64_w, i32_w]
    rfl
  refine pure_ (i := 3) (N := some 6) (v := ?_) (a' := ?_) #[true, true, true, true, false] rfl rfl (by kernel_rfl) (fun _ _ _ h => h) (Or.inl ⟨by rfl, ?_⟩) ?_ ?_
  rotate_left
  · intro w'
    go_simp
    with_reducible rfl
  rotate_left
  · simp only [Act.put, List.setIfInBounds_toArray, List.set_cons_zero, List.set_cons_succ, i64_w, i32_w]
    rfl
  refine pure_ (i := 4) (N := some 7) (v := ?_) (a' := ?_) #[true, true, true, true, true] rfl rfl (by kernel_rfl) (fun _ _ _ h => h) (Or.inl ⟨by rfl, ?_⟩) ?_ ?_
  rotate_left
  · intro w'
    go_simp
    with_reducible rfl
  rotate_left
  · simp only [Act.put, List.setIfInBounds_toArray, List.set_cons_zero, List.set_cons_succ, i64_w, i32_w]
    rfl
  refine done_ (by kernel_rfl) ?_
  go_wp2_with fail
  go_ret2
  exact ⟨_, rfl, HB2.out.1, HB2.out.2.1, HB2.out.2.2.drew⟩
set_option maxHeartbeats 4000000 in
set_option maxRecDepth 100000 in
theorem high32t_val (A : Option Addr) (c : Nat) (l : List Int) (w : World) (hC : Kd.C (Kd.int .u8) w A l.length l) (hl : l.length ≤ c) (h32 : l.length = 32) :
    Calls Tryd.prog 15 #[.int .i64 32, .slice A l.length c, .bool true] w fun e w' => ∃ g, e = .returned (.tuple #[.iface 80 (.pointer (some ⟨g, 0, none⟩)), .bool true]) ∧ (Dig g 102 (ini (keyN (lx l))) (lx l) nz 0 32).In w' ∧ w.heap.size ≤ g ∧ Below w.heap.size w w' := by
  have HH := Lib.hid (And.intro hC (And.intro hl (And.intro (own_law l (by omega)) h32)))
  clear hC hl h32
  go_enter Tryd.func15, Tryd.ntmps15
  go_wp2_with fail
  obtain ⟨hC, hl, ho, h32⟩ := id HH
  refine (impl_own.calls A c l l w hC hl ho).mono ?_
  rintro e w1 ⟨v0, rfl, hR, hb⟩
  obtain ⟨A1, c1, b1, rfl, hc1, hA1, hx1⟩ := R_bts hR
  obtain rfl := hA1 (by omega)
  have HB := Lib.hid (And.intro hb hx1)
  clear hR hC hl ho HH hb hx1 hA1
  simp only [h32] at HB ⊢
  go_wp2_with fail
  refine (dig_val b1 0 c1 (lx l) _ HB.out.2).mono ?_
  rintro e w2 ⟨g, rfl, hd, hg, hb2⟩
  have HB2 := Lib.hid (And.intro hd (And.intro (Nat.le_trans HB.out.1.size hg) (HB.out.1.trans (hb2.mono HB.out.1.size))))
  clear hb2 HB hd hg
  go_wp2_with fail
  refine start_ (n := 5) (S := fun w' => True) (ds := []) #[false, false, false, false, false] (by kernel_rfl) rfl rfl trivial (fun hHeld => ?_)
  refine pure_ (i := 0) (N := some 72) (v := ?_) (a' := ?_) #[true, false, false, false, false] rfl rfl (by kernel_rfl) (fun _ _ _ h => h) (Or.inl ⟨by rfl, ?_⟩) ?_ ?_
  rotate_left
  · intro w'
    go_simp
    with_reducible rfl
  rotate_left
  · simp only [Act.put, List.setIfInBounds_toArray, List.set_cons_zero, List.set_cons_succ, i64_w, i32_w]
    rfl
  refine pure_ (i := 1) (N := some 73) (v := ?_) (a' := ?_) #[true, true, false, false, false] rfl rfl (by kernel_rfl) (fun _ _ _ h => h) (Or.inl ⟨by rfl, ?_⟩) ?_ ?_
  rotate_left
  · intro w'
    go_simp
    with_reducible rfl
  rotate_left
  · simp only [Act.put, List.setIfInBounds_toArray, List.set_cons_zero, List.set_cons_succ, i64_w, i32_w]
    rfl
  refine pure_ (i := 2) (N := some 74) (v := ?_) (a' := ?_) #[true, true, true, false, false] rfl rfl (by kernel_rfl) (fun _ _ _ h => h) (Or.inl ⟨by rfl, ?_⟩) ?_ ?_
  rotate_left
  · intro w'
    go_simp
    with_reducible rfl
  rotate_left
  · simp only [Act.put, List.setIfInBounds_toArray, List.set_cons_zero, List.set_cons_succ, i64_w, i32_w]
    rfl
  refine pure_ (i := 3) (N := some 6) (v := ?_) (a' := ?_) #[true, true, true, true, false] rfl rfl (by kernel_rfl) (fun _ _ _ h => h) (Or.inl ⟨by rfl, ?_⟩) ?_ ?_
  rotate_left
  · intro w'
    go_simp
    with_reducible rfl
  rotate_left
  · simp only [Act.put, List.setIfInBounds_toArray, List.set_cons_zero, List.set_cons_succ, i64_w, i32_w]
    rfl
  refine pure_ (i := 4) (N := some 7) (v := ?_) (a' := ?_) #[true, true, true, true, true] rfl rfl (by kernel_rfl) (fun _ _ _ h => h) (Or.inl ⟨by rfl, ?_⟩) ?_ ?_
  rotate_left
  · intro w'
    go_simp
    with_reducible rfl
  rotate_left
  · simp only [Act.put, List.setIfInBounds_toArray, List.set_cons_zero, List.set_cons_succ, i64_w, i32_w]
    rfl
  refine done_ (by kernel_rfl) ?_
  go_wp2_with fail
  go_ret2
  exact ⟨_, rfl, HB2.out.1, HB2.out.2.1, HB2.out.2.2.drew⟩
set_option maxHeartbeats 4000000 in
set_option maxRecDepth 100000 in
theorem high32f_val (A : Option Addr) (c : Nat) (l : List Int) (w : World) (hC : Kd.C (Kd.int .u8) w A l.length l) (hl : l.length ≤ c) (h32 : l.length = 32) :
    Calls Tryd.prog 15 #[.int .i64 32, .slice A l.length c, .bool false] w fun e w' => ∃ g, e = .returned (.tuple #[.iface 80 (.pointer (some ⟨g, 0, none⟩)), .bool true]) ∧ (Dig g 102 (ini (keyN (lx l))) (lx l) nz 0 32).In w' ∧ w.heap.size ≤ g ∧ Below w.heap.size w w' := by
  have HH := Lib.hid (And.intro hC (And.intro hl (And.intro (own_law l (by omega)) h32)))
  clear hC hl h32
  go_enter Tryd.func15, Tryd.ntmps15
  go_wp2_with fail
  obtain ⟨hC, hl, ho, h32⟩ := id HH
  refine (impl_own.calls A c l l w hC hl ho).mono ?_
  rintro e w1 ⟨v0, rfl, hR, hb⟩
  obtain ⟨A1, c1, b1, rfl, hc1, hA1, hx1⟩ := R_bts hR
  obtain rfl := hA1 (by omega)
  have HB := Lib.hid (And.intro hb hx1)
  clear hR hC hl ho HH hb hx1 hA1
  simp only [h32] at HB ⊢
  go_wp2_with fail
  refine (new_val b1 0 c1 (lx l) _ HB.out.2).mono ?_
  rintro e w2 ⟨g, rfl, hd, hg, hb2⟩
  have HB2 := Lib.hid (And.intro hd (And.intro (Nat.le_trans HB.out.1.size hg) (HB.out.1.trans (hb2.mono HB.out.1.size))))
  clear hb2 HB hd hg
  go_wp2_with fail
  refine start_ (n := 5) (S := fun w' => True) (ds := []) #[false, false, false, false, false] (by kernel_rfl) rfl rfl trivial (fun hHeld => ?_)
  refine pure_ (i := 0) (N := some 72) (v := ?_) (a' := ?_) #[true, false, false, false, false] rfl rfl (by kernel_rfl) (fun _ _ _ h => h) (Or.inl ⟨by rfl, ?_⟩) ?_ ?_
  rotate_left
  · intro w'
    go_simp
    with_reducible rfl
  rotate_left
  · simp only [Act.put, List.setIfInBounds_toArray, List.set_cons_zero, List.set_cons_succ, i64_w, i32_w]
    rfl
  refine pure_ (i := 1) (N := some 73) (v := ?_) (a' := ?_) #[true, true, false, false, false] rfl rfl (by kernel_rfl) (fun _ _ _ h => h) (Or.inl ⟨by rfl, ?_⟩) ?_ ?_
  rotate_left
  · intro w'
    go_simp
    with_reducible rfl
  rotate_left
  · simp only [Act.put, List.setIfInBounds_toArray, List.set_cons_zero, List.set_cons_succ, i64_w, i32_w]
    rfl
  refine pure_ (i := 2) (N := some 74) (v := ?_) (a' := ?_) #[true, true, true, false, false] rfl rfl (by kernel_rfl) (fun _ _ _ h => h) (Or.inl ⟨by rfl, ?_⟩) ?_ ?_
  rotate_left
  · intro w'
    go_simp
    with_reducible rfl
  rotate_left
  · simp only [Act.put, List.setIfInBounds_toArray, List.set_cons_zero, List.set_cons_succ, i64_w, i32_w]
    rfl
  refine pure_ (i := 3) (N := some 6) (v := ?_) (a' := ?_) #[true, true, true, true, false] rfl rfl (by kernel_rfl) (fun _ _ _ h => h) (Or.inl ⟨by rfl, ?_⟩) ?_ ?_
  rotate_left
  · intro w'
    go_simp
    with_reducible rfl
  rotate_left
  · simp only [Act.put, List.setIfInBounds_toArray, List.set_cons_zero, List.set_cons_succ, i64_w, i32_w]
    rfl
  refine pure_ (i := 4) (N := some 7) (v := ?_) (a' := ?_) #[true, true, true, true, true] rfl rfl (by kernel_rfl) (fun _ _ _ h => h) (Or.inl ⟨by rfl, ?_⟩) ?_ ?_
  rotate_left
  · intro w'
    go_simp
    with_reducible rfl
  rotate_left
  · simp only [Act.put, List.setIfInBounds_toArray, List.set_cons_zero, List.set_cons_succ, i64_w, i32_w]
    rfl
  refine done_ (by kernel_rfl) ?_
  go_wp2_with fail
  go_ret2
  exact ⟨_, rfl, HB2.out.1, HB2.out.2.1, HB2.out.2.2.drew⟩
/-- A running hash of size sz over block g: its pointer's type. -/
def hT (sz : Nat) : TypeId := if sz = 8 then 104 else 102
def hU (sz : Nat) : TypeId := if sz = 8 then 73 else 80
theorem highway_val (sz : Nat) (hsz : sz = 8 ∨ sz = 16 ∨ sz = 32) (d : Bool) (A : Option Addr) (c : Nat) (l : List Int) (w : World) (hC : Kd.C (Kd.int .u8) w A l.length l) (hl : l.length ≤ c) (h32 : l.length = 32) :
    Calls Tryd.prog 15 #[.int .i64 (sz : Int), .slice A l.length c, .bool d] w fun e w' => ∃ g, e = .returned (.tuple #[.iface (hU sz) (.pointer (some ⟨g, 0, none⟩)), .bool true]) ∧ (Dig g (hT sz) (ini (keyN (lx l))) (lx l) nz 0 sz).In w' ∧ w.heap.size ≤ g ∧ Below w.heap.size w w' := by
  rcases hsz with rfl | rfl | rfl <;> cases d
  · exact high8f_val A c l w hC hl h32
  · exact high8t_val A c l w hC hl h32
  · exact high16f_val A c l w hC hl h32
  · exact high16t_val A c l w hC hl h32
  · exact high32f_val A c l w hC hl h32
  · exact high32t_val A c l w hC hl h32
end Go.Proofs.YtnehminojlocoaaDoor.PAll
namespace Go.Proofs.YtnehminojlocoaaDoor.PAll
open Go.RowKit Go.Proofs.YtnehminojlocoaaDoorW.PrintWords Go.Proofs.YtnehminojlocoaaDoorW.PrintLast Go.Proofs.YtnehminojlocoaaDoorW.PrintMore
set_option linter.unusedVariables false
set_option linter.unusedSimpArgs false
theorem le8_congr (x x' : Nat → Int) (h : ∀ i, i < 8 → x i = x' i) : le8 x = le8 x' := by
  unfold le8
  rw [h 0 (by decide), h 1 (by decide), h 2 (by decide), h 3 (by decide), h 4 (by decide), h 5 (by decide), h 6 (by decide), h 7 (by decide)]
theorem U_congr (s y y' : Nat → Int) (h : ∀ i, i < 32 → y i = y' i) : U s y = U s y' := by
  unfold U
  rw [le8_congr (fun i => y (0 + i)) (fun i => y' (0 + i)) (fun i hi => h _ (by omega)), le8_congr (fun i => y (8 + i)) (fun i => y' (8 + i)) (fun i hi => h _ (by omega)), le8_congr (fun i => y (16 + i)) (fun i => y' (16 + i)) (fun i hi => h _ (by omega)), le8_congr (fun i => y (24 + i)) (fun i => y' (24 + i)) (fun i hi => h _ (by omega))]
theorem updN_congr (s x x' : Nat → Int) : ∀ k, (∀ i, i < k * 32 → x i = x' i) → updN k s x = updN k s x'
  | 0, _ => rfl
  | k + 1, h => by
    show U (updN k s x) _ = U (updN k s x') _
    rw [updN_congr s x x' k (fun i hi => h i (by omega))]
    exact U_congr _ _ _ (fun i hi => h _ (by omega))
theorem updN_add (s x : Nat → Int) (a : Nat) : ∀ b, updN (a + b) s x = updN b (updN a s x) (fun i => x (a * 32 + i))
  | 0 => rfl
  | b + 1 => by
    show U (updN (a + b) s x) _ = U (updN b (updN a s x) (fun i => x (a * 32 + i))) _
    rw [updN_add s x a b]
    exact U_congr _ _ _ (fun i hi => by show x ((a + b) * 32 + i) = x (a * 32 + (b * 32 + i)); congr 1; omega)
theorem lastW_congr (n : Nat) (x x' : Nat → Int) (h : ∀ i, i < n → x i = x' i) (h4 : n % 4 ≠ 0) : lastW n x = lastW n x' := by
  unfold lastW
  rw [h (n / 4 * 4) (by omega), h (n / 4 * 4 + n % 4 / 2) (by omega), h (n - 1) (by omega)]
theorem hb_congr (n : Nat) (s x x' : Nat → Int) (h : ∀ i, i < n → x i = x' i) : hb n s x = hb n s x' := by
  unfold hb
  refine U_congr _ _ _ (fun i hi => ?_)
  unfold blk
  split
  · unfold blkA
    split
    · exact h _ (by omega)
    · split
      · exact h _ (by omega)
      · rfl
  · split
    · unfold blkC
      split
      · exact h _ (by omega)
      · rfl
    · unfold blkB
      rw [lastW_congr n x x' h (by assumption)]
      split
      · rfl
      · split
        · exact h _ (by omega)
        · rfl
/-- A text t of m octets, with octets x behind it. -/
def app (t : Nat → Int) (m : Nat) (x : Nat → Int) : Nat → Int := fun i => if i < m then t i else x (i - m)
theorem app_lo {t x : Nat → Int} {m i : Nat} (h : i < m) : app t m x i = t i := if_pos h
theorem app_hi {t x : Nat → Int} {m i : Nat} (h : ¬ i < m) : app t m x i = x (i - m) := if_neg h
/-- The digest (state s, buffer z, offset q; key y) holds the text t of m octets. -/
def Holds (y t : Nat → Int) (m : Nat) (s z : Nat → Int) (q : Nat) : Prop := s = updN (m / 32) (ini (keyN y)) t ∧ q = m % 32 ∧ ∀ i, i < q → z i = t (m / 32 * 32 + i)
theorem holds_nil (y t z : Nat → Int) : Holds y t 0 (ini (keyN y)) z 0 := ⟨rfl, rfl, fun i hi => absurd hi (by omega)⟩
theorem holds_sum {y t : Nat → Int} {m : Nat} {s z : Nat → Int} {q : Nat} (h : Holds y t m s z q) : dgS s z q = hvS y t m := by
  obtain ⟨rfl, rfl, hz⟩ := h
  unfold dgS hvS
  split
  · rfl
  · exact hb_congr _ _ _ _ (fun i hi => by rw [hz i hi, if_pos hi])
theorem holds_write {y t : Nat → Int} {m : Nat} {s z : Nat → Int} {q : Nat} (x : Nat → Int) (n : Nat) (h : Holds y t m s z q) : Holds y (app t m x) (m + n) (wrS s z q x n) (wrZ z q x n) (wrQ q n) := by
  obtain ⟨hs, hq, hz⟩ := h
  have hs' : updN (m / 32) (ini (keyN y)) (app t m x) = s := by
    rw [hs]
    exact updN_congr _ _ _ _ (fun i hi => app_lo (by omega))
  unfold wrS wrZ wrQ
  by_cases h0 : q = 0
  · simp only [if_pos h0]
    refine ⟨?_, by omega, fun i hi => ?_⟩
    · rw [show (m + n) / 32 = m / 32 + n / 32 by omega, updN_add, hs']
      exact updN_congr _ _ _ _ (fun i hi => by rw [app_hi (by omega)]; congr 1; omega)
    · rw [if_neg (by omega), app_hi (by omega)]
      unfold cpz
      rw [if_pos (by omega)]
      show x (n / 32 * 32 + (i - 0)) = x ((m + n) / 32 * 32 + i - m)
      congr 1
      omega
  · by_cases h1 : n < 32 - q
    · simp only [if_neg h0, if_pos h1]
      refine ⟨?_, by omega, fun i hi => ?_⟩
      · rw [show (m + n) / 32 = m / 32 by omega, hs']
      · unfold cpz
        by_cases h2 : i < q
        · rw [if_neg (by omega), hz i h2, app_lo (by omega)]
          congr 1
          omega
        · rw [if_pos (by omega), app_hi (by omega)]
          congr 1
          omega
    · simp only [if_neg h0, if_neg h1]
      refine ⟨?_, by omega, fun i hi => ?_⟩
      · rw [show (m + n) / 32 = (m / 32 + 1) + (n - (32 - q)) / 32 by omega, updN_add]
        have e : updN (m / 32 + 1) (ini (keyN y)) (app t m x) = updN 1 s (cpz z q (32 - q) x) := by
          rw [updN_one]
          show U (updN (m / 32) _ _) _ = _
          rw [hs']
          refine U_congr _ _ _ (fun i hi => ?_)
          unfold cpz
          by_cases h2 : i < q
          · rw [if_neg (by omega), hz i h2, app_lo (by omega)]
          · rw [if_pos (by omega), app_hi (by omega)]
            congr 1
            omega
        rw [e]
        exact updN_congr _ _ _ _ (fun i hi => by rw [app_hi (by omega)]; congr 1; omega)
      · rw [if_neg (by omega), app_hi (by omega)]
        unfold cpz
        rw [if_pos (by omega)]
        show x (32 - q + ((n - (32 - q)) / 32 * 32 + (i - 0))) = x ((m + n) / 32 * 32 + i - m)
        congr 1
        omega
theorem lx_app (L x : List Int) : app (lx L) L.length (lx x) = lx (L ++ x) := by
  funext i
  unfold app lx
  rw [List.getD_eq_getElem?_getD, List.getD_eq_getElem?_getD, List.getD_eq_getElem?_getD, List.getElem?_append]
  split <;> rfl
/-- The digest holds a text: a list of octets. -/
def HoldL (y : Nat → Int) (L : List Int) (s z : Nat → Int) (q : Nat) : Prop := Holds y (lx L) L.length s z q
theorem holdL_nil (y z : Nat → Int) : HoldL y [] (ini (keyN y)) z 0 := holds_nil y _ z
theorem holdL_write {y : Nat → Int} {L : List Int} {s z : Nat → Int} {q : Nat} (x : List Int) (h : HoldL y L s z q) : HoldL y (L ++ x) (wrS s z q (lx x) x.length) (wrZ z q (lx x) x.length) (wrQ q x.length) := by
  have h1 := holds_write (lx x) x.length h
  rw [lx_app, ← List.length_append] at h1
  exact h1
theorem holdL_sum {y : Nat → Int} {L : List Int} {s z : Nat → Int} {q : Nat} (h : HoldL y L s z q) : dgS s z q = hvS y (lx L) L.length := holds_sum h
theorem holdL_lt {y : Nat → Int} {L : List Int} {s z : Nat → Int} {q : Nat} (h : HoldL y L s z q) : q < 32 := by
  have := h.2.1
  omega
end Go.Proofs.YtnehminojlocoaaDoor.PAll
