/- Printed by the kit's print.py, called for several laws at once: functions as plain Lean, and the walks' contracts. -/
import Derived.Test.YtdepcnaiobfpkaaPAllx0
import Derived.Test.YtdepcnaiobfpkaaPAllx1
import Derived.Test.YtdepcnaiobfpkaaPAllx2
namespace Go.Proofs.Ytdepcnaiobfpkaa.PAll
open Go.RowKit Go.Proofs.YtdepcnaiobfpkaaW.PrintWords Go.Proofs.YtdepcnaiobfpkaaW.PrintLast Go.Proofs.YtdepcnaiobfpkaaW.PrintMore
attribute [local go_sem] max2_int min2_int max_two min_two max_three min_three max_four min_four   -- for this text's walks alone
set_option linter.unusedVariables false
set_option linter.unusedSimpArgs false

/-! ### spec_HalfRound: function 24 -/
def spec_HalfRound.l0 : Nat → Int → Int → Int → Int → Option (Int)
  | 0, _, _, _, _ => none
  | k + 1, x0, x1, x5, x6 => if x6 > 1 then (spec_HalfRound.l0 k x0 x1 (wrap64 (x5 + 1)) (wrap64 (Int.tdiv x6 2))) else (if x5 > 15 then (some 31744) else (if (wrap64 ((mx (wrap64 (x5 - 10)) (-24)) - x1)) > 30 then (some 0) else (if (mx (wrap64 (x5 - 10)) (-24)) > x1 then (if 0 ≤ (wrap64 ((mx (wrap64 (x5 - 10)) (-24)) - x1)) then (if (shl .i64 1 (wrap64 ((mx (wrap64 (x5 - 10)) (-24)) - x1))) = 0 then (none) else (if (wrap64 (2 * (Int.tmod x0 (shl .i64 1 (wrap64 ((mx (wrap64 (x5 - 10)) (-24)) - x1)))))) > (shl .i64 1 (wrap64 ((mx (wrap64 (x5 - 10)) (-24)) - x1))) then (some (IntKind.u16.wrap (mn (wrap64 ((wrap64 ((wrap64 ((mx (wrap64 (x5 - 10)) (-24)) + 24)) * 1024)) + (wrap64 ((wrap64 (Int.tdiv x0 (shl .i64 1 (wrap64 ((mx (wrap64 (x5 - 10)) (-24)) - x1))))) + 1)))) 31744))) else (if (wrap64 (2 * (Int.tmod x0 (shl .i64 1 (wrap64 ((mx (wrap64 (x5 - 10)) (-24)) - x1)))))) = (shl .i64 1 (wrap64 ((mx (wrap64 (x5 - 10)) (-24)) - x1))) then (if (Int.tmod (wrap64 (Int.tdiv x0 (shl .i64 1 (wrap64 ((mx (wrap64 (x5 - 10)) (-24)) - x1))))) 2) = 1 then (some (IntKind.u16.wrap (mn (wrap64 ((wrap64 ((wrap64 ((mx (wrap64 (x5 - 10)) (-24)) + 24)) * 1024)) + (wrap64 ((wrap64 (Int.tdiv x0 (shl .i64 1 (wrap64 ((mx (wrap64 (x5 - 10)) (-24)) - x1))))) + 1)))) 31744))) else (some (IntKind.u16.wrap (mn (wrap64 ((wrap64 ((wrap64 ((mx (wrap64 (x5 - 10)) (-24)) + 24)) * 1024)) + (wrap64 (Int.tdiv x0 (shl .i64 1 (wrap64 ((mx (wrap64 (x5 - 10)) (-24)) - x1))))))) 31744)))) else (some (IntKind.u16.wrap (mn (wrap64 ((wrap64 ((wrap64 ((mx (wrap64 (x5 - 10)) (-24)) + 24)) * 1024)) + (wrap64 (Int.tdiv x0 (shl .i64 1 (wrap64 ((mx (wrap64 (x5 - 10)) (-24)) - x1))))))) 31744)))))) else (none)) else (if 0 ≤ (wrap64 (x1 - (mx (wrap64 (x5 - 10)) (-24)))) then (if (2 * 0) > 1 then (some (IntKind.u16.wrap (mn (wrap64 ((wrap64 ((wrap64 ((mx (wrap64 (x5 - 10)) (-24)) + 24)) * 1024)) + (wrap64 ((shl .i64 x0 (wrap64 (x1 - (mx (wrap64 (x5 - 10)) (-24))))) + 1)))) 31744))) else (if (2 * 0) = 1 then (if (Int.tmod (shl .i64 x0 (wrap64 (x1 - (mx (wrap64 (x5 - 10)) (-24))))) 2) = 1 then (some (IntKind.u16.wrap (mn (wrap64 ((wrap64 ((wrap64 ((mx (wrap64 (x5 - 10)) (-24)) + 24)) * 1024)) + (wrap64 ((shl .i64 x0 (wrap64 (x1 - (mx (wrap64 (x5 - 10)) (-24))))) + 1)))) 31744))) else (some (IntKind.u16.wrap (mn (wrap64 ((wrap64 ((wrap64 ((mx (wrap64 (x5 - 10)) (-24)) + 24)) * 1024)) + (shl .i64 x0 (wrap64 (x1 - (mx (wrap64 (x5 - 10)) (-24))))))) 31744)))) else (some (IntKind.u16.wrap (mn (wrap64 ((wrap64 ((wrap64 ((mx (wrap64 (x5 - 10)) (-24)) + 24)) * 1024)) + (shl .i64 x0 (wrap64 (x1 - (mx (wrap64 (x5 - 10)) (-24))))))) 31744))))) else (none)))))
def spec_HalfRound.f (k : Nat) (a0 : Int) (a1 : Int) : Option (Int) := if a0 = 0 then (some 0) else (spec_HalfRound.l0 k a0 a1 a1 a0)
theorem spec_HalfRound.mono_l : ∀ k, (∀ y0 y1 y2 y3, LeO (spec_HalfRound.l0 k y0 y1 y2 y3) (spec_HalfRound.l0 (k + 1) y0 y1 y2 y3))
  | 0 => fun _ _ _ _ r h => by simp [spec_HalfRound.l0] at h
  | k + 1 => by
    have ih0 := spec_HalfRound.mono_l k
    · intro y0 y1 y2 y3
      unfold spec_HalfRound.l0
      repeat' first
      | (with_reducible exact ih0 _ _ _ _)
      | (with_reducible exact LeO.refl _)
      | (with_reducible exact LeO.none _)
      | (with_reducible refine LeO.ite ?_ ?_)
      | (with_reducible refine LeO.bind ?_ (fun _ => ?_))
      | exact ih0 _ _ _ _
      | exact LeO.none _
      | refine LeO.ite ?_ ?_
      | refine LeO.bind ?_ (fun _ => ?_)
theorem spec_HalfRound.mono : ∀ a0 a1 k, LeO (spec_HalfRound.f k a0 a1) (spec_HalfRound.f (k + 1) a0 a1) := by
  intro a0 a1 k
  have ih0 := spec_HalfRound.mono_l k
  unfold spec_HalfRound.f
  repeat' first
      | (with_reducible exact ih0 _ _ _ _)
      | (with_reducible exact LeO.refl _)
      | (with_reducible exact LeO.none _)
      | (with_reducible refine LeO.ite ?_ ?_)
      | (with_reducible refine LeO.bind ?_ (fun _ => ?_))
      | exact ih0 _ _ _ _
      | exact LeO.none _
      | refine LeO.ite ?_ ?_
      | refine LeO.bind ?_ (fun _ => ?_)
set_option maxHeartbeats 8000000 in
set_option maxRecDepth 100000 in
theorem spec_HalfRound.calls (k : Nat) (a0 : Int) (a1 : Int) (r : Int) (w : World) (h : spec_HalfRound.f k a0 a1 = some r) :
    Calls Try.prog 24 #[.int .i64 a0, .int .i64 a1] w fun e w' => e = .returned (.int .u16 r) ∧ Below w.heap.size w w' := by
  have HB := Aside0.mk (Below.refl w.heap.size w)
  have H : (if a0 = 0 then (some 0) else (spec_HalfRound.l0 k a0 a1 a1 a0)) = some r := h
  clear h
  by_cases c3 : a0 = 0
  · rw [if_pos c3] at H
    have c3b0 : (a0 == 0) = true := beq_iff_eq.mpr c3
    have c3b1 : (a0 != 0) = false := bne_eq_false_iff_eq.mpr c3
    clear c3
    obtain rfl := Option.some.inj H
    go_enter Try.func24, Try.ntmps24
    go_wp2
    all_goals repeat (go_quiet (fail); try go_wp2)
    all_goals go_ret
    all_goals exact ⟨by first | rfl | (simp [errW_none, errW_some] <;> rfl) | (simp [*, errW_none, errW_some] <;> rfl), by repeat (first | (with_reducible first | exact HB.out | apply below_alloc | apply pw_below_drewN | apply below_drew1) | exact HB.out)⟩
  · rw [if_neg c3] at H
    have c3b0 : (a0 == 0) = false := beq_eq_false_iff_ne.mpr c3
    have c3b1 : (a0 != 0) = true := bne_iff_ne.mpr c3
    have H' := Aside0.mk H
    clear H
    go_enter Try.func24, Try.ntmps24
    go_wp2
    all_goals repeat (go_quiet (fail); try go_wp2)
    go_loopg [5, 6] k (fun kq v5 v6 w' => ∃ (x5_1 : Int) (x6_1 : Int), v5 = .int .i64 x5_1 ∧ v6 = .int .i64 x6_1 ∧ Aside0 (spec_HalfRound.l0 kq a0 a1 x5_1 x6_1 = some r) ∧ Aside0 (kq ≤ k) ∧ Aside0 (Below w.heap.size w w'))
    case atStart => exact ⟨(a1), (a0), (by first | rfl | (simp; done) | (simp [*]; done)), (by first | rfl | (simp; done) | (simp [*]; done)), H', ⟨Nat.le_refl _⟩, ⟨by repeat (first | (with_reducible first | exact HB.out | apply below_alloc | apply pw_below_drewN | apply below_drew1) | exact HB.out)⟩⟩
    case round =>
      clear H'
      try clear c2
      try clear p2
      try clear c3
      try clear c3b0
      try clear c3b1
      obtain ⟨x5_1, x6_1, rfl, rfl, HA, HK1, HB⟩ := hrel
      cases gk with
      | zero => exact absurd HA.out (by simp [spec_HalfRound.l0])
      | succ k1 =>
        have H := HA.out
        clear HA
        simp only [spec_HalfRound.l0] at H
        by_cases c4 : x6_1 > 1
        · rw [if_pos c4] at H
          have c4b0 : decide (1 < x6_1) = true := decide_eq_true c4
          clear c4
          have H' := Aside0.mk H
          clear H
          go_wp2
          all_goals repeat (go_quiet (fail); try go_wp2)
          go_roundg k1
          case measure => have := HK1.out; omega
          case rel => exact ⟨(wrap64 (x5_1 + 1)), (wrap64 (Int.tdiv x6_1 2)), (by first | rfl | (simp; done) | (simp [*]; done)), (by first | rfl | (simp; done) | (simp [*]; done)), H', ⟨by have := HK1.out; omega⟩, ⟨by repeat (first | (with_reducible first | exact HB.out | apply below_alloc | apply pw_below_drewN | apply below_drew1) | exact HB.out)⟩⟩
        · rw [if_neg c4] at H
          have c4b0 : decide (1 < x6_1) = false := decide_eq_false c4
          clear c4
          by_cases c5 : x5_1 > 15
          · rw [if_pos c5] at H
            have c5b0 : decide (15 < x5_1) = true := decide_eq_true c5
            clear c5
            obtain rfl := Option.some.inj H
            go_wp2
            all_goals repeat (go_quiet (fail); try go_wp2)
            all_goals go_ret
            all_goals exact ⟨by first | rfl | (simp [errW_none, errW_some] <;> rfl) | (simp [*, errW_none, errW_some] <;> rfl), by repeat (first | (with_reducible first | exact HB.out | apply below_alloc | apply pw_below_drewN | apply below_drew1) | exact HB.out)⟩
          · rw [if_neg c5] at H
            have c5b0 : decide (15 < x5_1) = false := decide_eq_false c5
            clear c5
            obtain ⟨ji6, hji6⟩ : ∃ j_ : Int, (mx (wrap64 (x5_1 - 10)) (-24)) = j_ := ⟨_, rfl⟩
            replace H : (if (wrap64 ((ji6) - a1)) > 30 then (some 0) else (if (ji6) > a1 then (if 0 ≤ (wrap64 ((ji6) - a1)) then (if (shl .i64 1 (wrap64 ((ji6) - a1))) = 0 then (none) else (if (wrap64 (2 * (Int.tmod a0 (shl .i64 1 (wrap64 ((ji6) - a1)))))) > (shl .i64 1 (wrap64 ((ji6) - a1))) then (some (IntKind.u16.wrap (mn (wrap64 ((wrap64 ((wrap64 ((ji6) + 24)) * 1024)) + (wrap64 ((wrap64 (Int.tdiv a0 (shl .i64 1 (wrap64 ((ji6) - a1))))) + 1)))) 31744))) else (if (wrap64 (2 * (Int.tmod a0 (shl .i64 1 (wrap64 ((ji6) - a1)))))) = (shl .i64 1 (wrap64 ((ji6) - a1))) then (if (Int.tmod (wrap64 (Int.tdiv a0 (shl .i64 1 (wrap64 ((ji6) - a1))))) 2) = 1 then (some (IntKind.u16.wrap (mn (wrap64 ((wrap64 ((wrap64 ((ji6) + 24)) * 1024)) + (wrap64 ((wrap64 (Int.tdiv a0 (shl .i64 1 (wrap64 ((ji6) - a1))))) + 1)))) 31744))) else (some (IntKind.u16.wrap (mn (wrap64 ((wrap64 ((wrap64 ((ji6) + 24)) * 1024)) + (wrap64 (Int.tdiv a0 (shl .i64 1 (wrap64 ((ji6) - a1))))))) 31744)))) else (some (IntKind.u16.wrap (mn (wrap64 ((wrap64 ((wrap64 ((ji6) + 24)) * 1024)) + (wrap64 (Int.tdiv a0 (shl .i64 1 (wrap64 ((ji6) - a1))))))) 31744)))))) else (none)) else (if 0 ≤ (wrap64 (a1 - (ji6))) then (if (2 * 0) > 1 then (some (IntKind.u16.wrap (mn (wrap64 ((wrap64 ((wrap64 ((ji6) + 24)) * 1024)) + (wrap64 ((shl .i64 a0 (wrap64 (a1 - (ji6)))) + 1)))) 31744))) else (if (2 * 0) = 1 then (if (Int.tmod (shl .i64 a0 (wrap64 (a1 - (ji6)))) 2) = 1 then (some (IntKind.u16.wrap (mn (wrap64 ((wrap64 ((wrap64 ((ji6) + 24)) * 1024)) + (wrap64 ((shl .i64 a0 (wrap64 (a1 - (ji6)))) + 1)))) 31744))) else (some (IntKind.u16.wrap (mn (wrap64 ((wrap64 ((wrap64 ((ji6) + 24)) * 1024)) + (shl .i64 a0 (wrap64 (a1 - (ji6)))))) 31744)))) else (some (IntKind.u16.wrap (mn (wrap64 ((wrap64 ((wrap64 ((ji6) + 24)) * 1024)) + (shl .i64 a0 (wrap64 (a1 - (ji6)))))) 31744))))) else (none)))) = some r := by first | (rw [hji6] at H; exact H) | (simp only [hji6] at H ⊢; exact H)
            have hji6_ : (if (wrap64 (x5_1 - 10)) < (-24) then (-24) else (wrap64 (x5_1 - 10))) = ji6 := hji6
            by_cases c7 : (wrap64 ((ji6) - a1)) > 30
            · rw [if_pos c7] at H
              have c7b0 : decide (30 < (wrap64 ((ji6) - a1))) = true := decide_eq_true c7
              clear c7
              obtain rfl := Option.some.inj H
              go_wp2
              all_goals repeat (go_quiet (fail); try go_wp2)
              all_goals go_ret
              all_goals exact ⟨by first | rfl | (simp [errW_none, errW_some] <;> rfl) | (simp only [← hji6]; first | rfl | (simp [errW_none, errW_some] <;> rfl)) | (simp [*, errW_none, errW_some] <;> rfl), by repeat (first | (with_reducible first | exact HB.out | apply below_alloc | apply pw_below_drewN | apply below_drew1) | exact HB.out)⟩
            · rw [if_neg c7] at H
              have c7b0 : decide (30 < (wrap64 ((ji6) - a1))) = false := decide_eq_false c7
              clear c7
              by_cases c8 : (ji6) > a1
              · rw [if_pos c8] at H
                have c8b0 : decide (a1 < (ji6)) = true := decide_eq_true c8
                clear c8
                obtain ⟨ji9, hji9⟩ : ∃ j_ : Int, (wrap64 ((ji6) - a1)) = j_ := ⟨_, rfl⟩
                replace H : (if 0 ≤ (ji9) then (if (shl .i64 1 (ji9)) = 0 then (none) else (if (wrap64 (2 * (Int.tmod a0 (shl .i64 1 (ji9))))) > (shl .i64 1 (ji9)) then (some (IntKind.u16.wrap (mn (wrap64 ((wrap64 ((wrap64 ((ji6) + 24)) * 1024)) + (wrap64 ((wrap64 (Int.tdiv a0 (shl .i64 1 (ji9)))) + 1)))) 31744))) else (if (wrap64 (2 * (Int.tmod a0 (shl .i64 1 (ji9))))) = (shl .i64 1 (ji9)) then (if (Int.tmod (wrap64 (Int.tdiv a0 (shl .i64 1 (ji9)))) 2) = 1 then (some (IntKind.u16.wrap (mn (wrap64 ((wrap64 ((wrap64 ((ji6) + 24)) * 1024)) + (wrap64 ((wrap64 (Int.tdiv a0 (shl .i64 1 (ji9)))) + 1)))) 31744))) else (some (IntKind.u16.wrap (mn (wrap64 ((wrap64 ((wrap64 ((ji6) + 24)) * 1024)) + (wrap64 (Int.tdiv a0 (shl .i64 1 (ji9)))))) 31744)))) else (some (IntKind.u16.wrap (mn (wrap64 ((wrap64 ((wrap64 ((ji6) + 24)) * 1024)) + (wrap64 (Int.tdiv a0 (shl .i64 1 (ji9)))))) 31744)))))) else (none)) = some r := by first | (rw [hji9] at H; exact H) | (simp only [hji9] at H ⊢; exact H)
                (try rw [hji9] at c7b0)
                have hji9w : (IntKind.i64.wrap ((ji6) - a1)) = ji9 := (i64_w _).trans hji9
                by_cases c10 : 0 ≤ (ji9)
                · rw [if_pos c10] at H
                  have c10b0 := eq_true c10
                  have c10b1 : decide (0 ≤ (ji9)) = true := decide_eq_true c10
                  clear c10
                  obtain ⟨ji11, hji11⟩ : ∃ j_ : Int, (shl .i64 1 (ji9)) = j_ := ⟨_, rfl⟩
                  replace H : (if (ji11) = 0 then (none) else (if (wrap64 (2 * (Int.tmod a0 (ji11)))) > (ji11) then (some (IntKind.u16.wrap (mn (wrap64 ((wrap64 ((wrap64 ((ji6) + 24)) * 1024)) + (wrap64 ((wrap64 (Int.tdiv a0 (ji11))) + 1)))) 31744))) else (if (wrap64 (2 * (Int.tmod a0 (ji11)))) = (ji11) then (if (Int.tmod (wrap64 (Int.tdiv a0 (ji11))) 2) = 1 then (some (IntKind.u16.wrap (mn (wrap64 ((wrap64 ((wrap64 ((ji6) + 24)) * 1024)) + (wrap64 ((wrap64 (Int.tdiv a0 (ji11))) + 1)))) 31744))) else (some (IntKind.u16.wrap (mn (wrap64 ((wrap64 ((wrap64 ((ji6) + 24)) * 1024)) + (wrap64 (Int.tdiv a0 (ji11))))) 31744)))) else (some (IntKind.u16.wrap (mn (wrap64 ((wrap64 ((wrap64 ((ji6) + 24)) * 1024)) + (wrap64 (Int.tdiv a0 (ji11))))) 31744)))))) = some r := by first | (rw [hji11] at H; exact H) | (simp only [hji11] at H ⊢; exact H)
                  have hji11_ : (IntKind.i64.wrap (1 * 2 ^ min (ji9).toNat 64)) = ji11 := hji11
                  have hji11z : (ji9) ≤ 64 → (IntKind.i64.wrap (1 * 2 ^ (ji9).toNat)) = ji11 := shl_small hji11
                  have hji11u : (IntKind.i64.wrap (2 ^ min (ji9).toNat 64)) = ji11 := by have h_ := hji11_; rw [Int.one_mul] at h_; exact h_
                  have hji11v : (ji9) ≤ 64 → (IntKind.i64.wrap (2 ^ (ji9).toNat)) = ji11 := fun hle_ => by have h_ := hji11z hle_; rw [Int.one_mul] at h_; exact h_
                  have hji11y : (wrap64 (1 * 2 ^ min (ji9).toNat 64)) = ji11 := (i64_w _).symm.trans hji11_
                  have hji11x : (ji9) ≤ 64 → (wrap64 (1 * 2 ^ (ji9).toNat)) = ji11 := fun h_ => (i64_w _).symm.trans (hji11z h_)
                  by_cases c12 : (ji11) = 0
                  · rw [if_pos c12] at H
                    exact absurd H (by simp)
                  · rw [if_neg c12] at H
                    have c12b0 : ((ji11) == 0) = false := beq_eq_false_iff_ne.mpr c12
                    have c12b1 : ((ji11) != 0) = true := bne_iff_ne.mpr c12
                    by_cases c13 : (wrap64 (2 * (Int.tmod a0 (ji11)))) > (ji11)
                    · rw [if_pos c13] at H
                      have c13b0 : decide ((ji11) < (wrap64 (2 * (Int.tmod a0 (ji11))))) = true := decide_eq_true c13
                      clear c13
                      obtain ⟨ji14, hji14⟩ : ∃ j_ : Int, (mn (wrap64 ((wrap64 ((wrap64 ((ji6) + 24)) * 1024)) + (wrap64 ((wrap64 (Int.tdiv a0 (ji11))) + 1)))) 31744) = j_ := ⟨_, rfl⟩
                      replace H : (some (IntKind.u16.wrap (ji14))) = some r := by first | (rw [hji14] at H; exact H) | (simp only [hji14] at H ⊢; exact H)
                      have hji14_ : (if 31744 < (wrap64 ((wrap64 ((wrap64 ((ji6) + 24)) * 1024)) + (wrap64 ((wrap64 (Int.tdiv a0 (ji11))) + 1)))) then 31744 else (wrap64 ((wrap64 ((wrap64 ((ji6) + 24)) * 1024)) + (wrap64 ((wrap64 (Int.tdiv a0 (ji11))) + 1))))) = ji14 := hji14
                      obtain rfl := Option.some.inj H
                      go_wp2
                      all_goals repeat (go_quiet (fail); try go_wp2)
                      all_goals go_ret
                      all_goals exact ⟨by first | rfl | (simp [errW_none, errW_some] <;> rfl) | (simp only [← hji6, ← hji9, ← hji11, ← hji14]; first | rfl | (simp [errW_none, errW_some] <;> rfl)) | (simp [*, errW_none, errW_some] <;> rfl), by repeat (first | (with_reducible first | exact HB.out | apply below_alloc | apply pw_below_drewN | apply below_drew1) | exact HB.out)⟩
                    · rw [if_neg c13] at H
                      have c13b0 : decide ((ji11) < (wrap64 (2 * (Int.tmod a0 (ji11))))) = false := decide_eq_false c13
                      clear c13
                      by_cases c15 : (wrap64 (2 * (Int.tmod a0 (ji11)))) = (ji11)
                      · rw [if_pos c15] at H
                        have c15b0 : ((wrap64 (2 * (Int.tmod a0 (ji11)))) == (ji11)) = true := beq_iff_eq.mpr c15
                        have c15b1 : ((wrap64 (2 * (Int.tmod a0 (ji11)))) != (ji11)) = false := bne_eq_false_iff_eq.mpr c15
                        clear c15
                        by_cases c16 : (Int.tmod (wrap64 (Int.tdiv a0 (ji11))) 2) = 1
                        · rw [if_pos c16] at H
                          have c16b0 : ((Int.tmod (wrap64 (Int.tdiv a0 (ji11))) 2) == 1) = true := beq_iff_eq.mpr c16
                          have c16b1 : ((Int.tmod (wrap64 (Int.tdiv a0 (ji11))) 2) != 1) = false := bne_eq_false_iff_eq.mpr c16
                          clear c16
                          obtain ⟨ji17, hji17⟩ : ∃ j_ : Int, (mn (wrap64 ((wrap64 ((wrap64 ((ji6) + 24)) * 1024)) + (wrap64 ((wrap64 (Int.tdiv a0 (ji11))) + 1)))) 31744) = j_ := ⟨_, rfl⟩
                          replace H : (some (IntKind.u16.wrap (ji17))) = some r := by first | (rw [hji17] at H; exact H) | (simp only [hji17] at H ⊢; exact H)
                          have hji17_ : (if 31744 < (wrap64 ((wrap64 ((wrap64 ((ji6) + 24)) * 1024)) + (wrap64 ((wrap64 (Int.tdiv a0 (ji11))) + 1)))) then 31744 else (wrap64 ((wrap64 ((wrap64 ((ji6) + 24)) * 1024)) + (wrap64 ((wrap64 (Int.tdiv a0 (ji11))) + 1))))) = ji17 := hji17
                          obtain rfl := Option.some.inj H
                          go_wp2
                          all_goals repeat (go_quiet (fail); try go_wp2)
                          all_goals go_ret
                          all_goals exact ⟨by first | rfl | (simp [errW_none, errW_some] <;> rfl) | (simp only [← hji6, ← hji9, ← hji11, ← hji17]; first | rfl | (simp [errW_none, errW_some] <;> rfl)) | (simp [*, errW_none, errW_some] <;> rfl), by repeat (first | (with_reducible first | exact HB.out | apply below_alloc | apply pw_below_drewN | apply below_drew1) | exact HB.out)⟩
                        · rw [if_neg c16] at H
                          have c16b0 : ((Int.tmod (wrap64 (Int.tdiv a0 (ji11))) 2) == 1) = false := beq_eq_false_iff_ne.mpr c16
                          have c16b1 : ((Int.tmod (wrap64 (Int.tdiv a0 (ji11))) 2) != 1) = true := bne_iff_ne.mpr c16
                          obtain ⟨ji18, hji18⟩ : ∃ j_ : Int, (mn (wrap64 ((wrap64 ((wrap64 ((ji6) + 24)) * 1024)) + (wrap64 (Int.tdiv a0 (ji11))))) 31744) = j_ := ⟨_, rfl⟩
                          replace H : (some (IntKind.u16.wrap (ji18))) = some r := by first | (rw [hji18] at H; exact H) | (simp only [hji18] at H ⊢; exact H)
                          have hji18_ : (if 31744 < (wrap64 ((wrap64 ((wrap64 ((ji6) + 24)) * 1024)) + (wrap64 (Int.tdiv a0 (ji11))))) then 31744 else (wrap64 ((wrap64 ((wrap64 ((ji6) + 24)) * 1024)) + (wrap64 (Int.tdiv a0 (ji11)))))) = ji18 := hji18
                          obtain rfl := Option.some.inj H
                          go_wp2
                          all_goals repeat (go_quiet (fail); try go_wp2)
                          all_goals go_ret
                          all_goals exact ⟨by first | rfl | (simp [errW_none, errW_some] <;> rfl) | (simp only [← hji6, ← hji9, ← hji11, ← hji18]; first | rfl | (simp [errW_none, errW_some] <;> rfl)) | (simp [*, errW_none, errW_some] <;> rfl), by repeat (first | (with_reducible first | exact HB.out | apply below_alloc | apply pw_below_drewN | apply below_drew1) | exact HB.out)⟩
                      · rw [if_neg c15] at H
                        have c15b0 : ((wrap64 (2 * (Int.tmod a0 (ji11)))) == (ji11)) = false := beq_eq_false_iff_ne.mpr c15
                        have c15b1 : ((wrap64 (2 * (Int.tmod a0 (ji11)))) != (ji11)) = true := bne_iff_ne.mpr c15
                        obtain ⟨ji19, hji19⟩ : ∃ j_ : Int, (mn (wrap64 ((wrap64 ((wrap64 ((ji6) + 24)) * 1024)) + (wrap64 (Int.tdiv a0 (ji11))))) 31744) = j_ := ⟨_, rfl⟩
                        replace H : (some (IntKind.u16.wrap (ji19))) = some r := by first | (rw [hji19] at H; exact H) | (simp only [hji19] at H ⊢; exact H)
                        have hji19_ : (if 31744 < (wrap64 ((wrap64 ((wrap64 ((ji6) + 24)) * 1024)) + (wrap64 (Int.tdiv a0 (ji11))))) then 31744 else (wrap64 ((wrap64 ((wrap64 ((ji6) + 24)) * 1024)) + (wrap64 (Int.tdiv a0 (ji11)))))) = ji19 := hji19
                        obtain rfl := Option.some.inj H
                        go_wp2
                        all_goals repeat (go_quiet (fail); try go_wp2)
                        all_goals go_ret
                        all_goals exact ⟨by first | rfl | (simp [errW_none, errW_some] <;> rfl) | (simp only [← hji6, ← hji9, ← hji11, ← hji19]; first | rfl | (simp [errW_none, errW_some] <;> rfl)) | (simp [*, errW_none, errW_some] <;> rfl), by repeat (first | (with_reducible first | exact HB.out | apply below_alloc | apply pw_below_drewN | apply below_drew1) | exact HB.out)⟩
                · rw [if_neg c10] at H
                  exact absurd H (by simp)
              · rw [if_neg c8] at H
                have c8b0 : decide (a1 < (ji6)) = false := decide_eq_false c8
                clear c8
                obtain ⟨ji20, hji20⟩ : ∃ j_ : Int, (wrap64 (a1 - (ji6))) = j_ := ⟨_, rfl⟩
                replace H : (if 0 ≤ (ji20) then (if (2 * 0) > 1 then (some (IntKind.u16.wrap (mn (wrap64 ((wrap64 ((wrap64 ((ji6) + 24)) * 1024)) + (wrap64 ((shl .i64 a0 (ji20)) + 1)))) 31744))) else (if (2 * 0) = 1 then (if (Int.tmod (shl .i64 a0 (ji20)) 2) = 1 then (some (IntKind.u16.wrap (mn (wrap64 ((wrap64 ((wrap64 ((ji6) + 24)) * 1024)) + (wrap64 ((shl .i64 a0 (ji20)) + 1)))) 31744))) else (some (IntKind.u16.wrap (mn (wrap64 ((wrap64 ((wrap64 ((ji6) + 24)) * 1024)) + (shl .i64 a0 (ji20)))) 31744)))) else (some (IntKind.u16.wrap (mn (wrap64 ((wrap64 ((wrap64 ((ji6) + 24)) * 1024)) + (shl .i64 a0 (ji20)))) 31744))))) else (none)) = some r := by first | (rw [hji20] at H; exact H) | (simp only [hji20] at H ⊢; exact H)
                have hji20w : (IntKind.i64.wrap (a1 - (ji6))) = ji20 := (i64_w _).trans hji20
                by_cases c21 : 0 ≤ (ji20)
                · rw [if_pos c21] at H
                  have c21b0 := eq_true c21
                  have c21b1 : decide (0 ≤ (ji20)) = true := decide_eq_true c21
                  clear c21
                  obtain ⟨ji22, hji22⟩ : ∃ j_ : Int, (shl .i64 a0 (ji20)) = j_ := ⟨_, rfl⟩
                  replace H : (if (2 * 0) > 1 then (some (IntKind.u16.wrap (mn (wrap64 ((wrap64 ((wrap64 ((ji6) + 24)) * 1024)) + (wrap64 ((ji22) + 1)))) 31744))) else (if (2 * 0) = 1 then (if (Int.tmod (ji22) 2) = 1 then (some (IntKind.u16.wrap (mn (wrap64 ((wrap64 ((wrap64 ((ji6) + 24)) * 1024)) + (wrap64 ((ji22) + 1)))) 31744))) else (some (IntKind.u16.wrap (mn (wrap64 ((wrap64 ((wrap64 ((ji6) + 24)) * 1024)) + (ji22))) 31744)))) else (some (IntKind.u16.wrap (mn (wrap64 ((wrap64 ((wrap64 ((ji6) + 24)) * 1024)) + (ji22))) 31744))))) = some r := by first | (rw [hji22] at H; exact H) | (simp only [hji22] at H ⊢; exact H)
                  have hji22_ : (IntKind.i64.wrap (a0 * 2 ^ min (ji20).toNat 64)) = ji22 := hji22
                  have hji22z : (ji20) ≤ 64 → (IntKind.i64.wrap (a0 * 2 ^ (ji20).toNat)) = ji22 := shl_small hji22
                  have hji22y : (wrap64 (a0 * 2 ^ min (ji20).toNat 64)) = ji22 := (i64_w _).symm.trans hji22_
                  have hji22x : (ji20) ≤ 64 → (wrap64 (a0 * 2 ^ (ji20).toNat)) = ji22 := fun h_ => (i64_w _).symm.trans (hji22z h_)
                  by_cases c23 : (2 * 0) > 1
                  · rw [if_pos c23] at H
                    have c23b0 : decide (1 < (2 * 0)) = true := decide_eq_true c23
                    clear c23
                    obtain ⟨ji24, hji24⟩ : ∃ j_ : Int, (mn (wrap64 ((wrap64 ((wrap64 ((ji6) + 24)) * 1024)) + (wrap64 ((ji22) + 1)))) 31744) = j_ := ⟨_, rfl⟩
                    replace H : (some (IntKind.u16.wrap (ji24))) = some r := by first | (rw [hji24] at H; exact H) | (simp only [hji24] at H ⊢; exact H)
                    have hji24_ : (if 31744 < (wrap64 ((wrap64 ((wrap64 ((ji6) + 24)) * 1024)) + (wrap64 ((ji22) + 1)))) then 31744 else (wrap64 ((wrap64 ((wrap64 ((ji6) + 24)) * 1024)) + (wrap64 ((ji22) + 1))))) = ji24 := hji24
                    obtain rfl := Option.some.inj H
                    go_wp2
                    all_goals repeat (go_quiet (fail); try go_wp2)
                    all_goals go_ret
                    all_goals exact ⟨by first | rfl | (simp [errW_none, errW_some] <;> rfl) | (simp only [← hji6, ← hji20, ← hji22, ← hji24]; first | rfl | (simp [errW_none, errW_some] <;> rfl)) | (simp [*, errW_none, errW_some] <;> rfl), by repeat (first | (with_reducible first | exact HB.out | apply below_alloc | apply pw_below_drewN | apply below_drew1) | exact HB.out)⟩
                  · rw [if_neg c23] at H
                    have c23b0 : decide (1 < (2 * 0)) = false := decide_eq_false c23
                    clear c23
                    by_cases c25 : (2 * 0) = 1
                    · rw [if_pos c25] at H
                      have c25b0 : ((2 * 0) == 1) = true := beq_iff_eq.mpr c25
                      have c25b1 : ((2 * 0) != 1) = false := bne_eq_false_iff_eq.mpr c25
                      clear c25
                      by_cases c26 : (Int.tmod (ji22) 2) = 1
                      · rw [if_pos c26] at H
                        have c26b0 : ((Int.tmod (ji22) 2) == 1) = true := beq_iff_eq.mpr c26
                        have c26b1 : ((Int.tmod (ji22) 2) != 1) = false := bne_eq_false_iff_eq.mpr c26
                        clear c26
                        obtain ⟨ji27, hji27⟩ : ∃ j_ : Int, (mn (wrap64 ((wrap64 ((wrap64 ((ji6) + 24)) * 1024)) + (wrap64 ((ji22) + 1)))) 31744) = j_ := ⟨_, rfl⟩
                        replace H : (some (IntKind.u16.wrap (ji27))) = some r := by first | (rw [hji27] at H; exact H) | (simp only [hji27] at H ⊢; exact H)
                        have hji27_ : (if 31744 < (wrap64 ((wrap64 ((wrap64 ((ji6) + 24)) * 1024)) + (wrap64 ((ji22) + 1)))) then 31744 else (wrap64 ((wrap64 ((wrap64 ((ji6) + 24)) * 1024)) + (wrap64 ((ji22) + 1))))) = ji27 := hji27
                        obtain rfl := Option.some.inj H
                        go_wp2
                        all_goals repeat (go_quiet (fail); try go_wp2)
                        all_goals go_ret
                        all_goals exact ⟨by first | rfl | (simp [errW_none, errW_some] <;> rfl) | (simp only [← hji6, ← hji20, ← hji22, ← hji27]; first | rfl | (simp [errW_none, errW_some] <;> rfl)) | (simp [*, errW_none, errW_some] <;> rfl), by repeat (first | (with_reducible first | exact HB.out | apply below_alloc | apply pw_below_drewN | apply below_drew1) | exact HB.out)⟩
                      · rw [if_neg c26] at H
                        have c26b0 : ((Int.tmod (ji22) 2) == 1) = false := beq_eq_false_iff_ne.mpr c26
                        have c26b1 : ((Int.tmod (ji22) 2) != 1) = true := bne_iff_ne.mpr c26
                        obtain ⟨ji28, hji28⟩ : ∃ j_ : Int, (mn (wrap64 ((wrap64 ((wrap64 ((ji6) + 24)) * 1024)) + (ji22))) 31744) = j_ := ⟨_, rfl⟩
                        replace H : (some (IntKind.u16.wrap (ji28))) = some r := by first | (rw [hji28] at H; exact H) | (simp only [hji28] at H ⊢; exact H)
                        have hji28_ : (if 31744 < (wrap64 ((wrap64 ((wrap64 ((ji6) + 24)) * 1024)) + (ji22))) then 31744 else (wrap64 ((wrap64 ((wrap64 ((ji6) + 24)) * 1024)) + (ji22)))) = ji28 := hji28
                        obtain rfl := Option.some.inj H
                        go_wp2
                        all_goals repeat (go_quiet (fail); try go_wp2)
                        all_goals go_ret
                        all_goals exact ⟨by first | rfl | (simp [errW_none, errW_some] <;> rfl) | (simp only [← hji6, ← hji20, ← hji22, ← hji28]; first | rfl | (simp [errW_none, errW_some] <;> rfl)) | (simp [*, errW_none, errW_some] <;> rfl), by repeat (first | (with_reducible first | exact HB.out | apply below_alloc | apply pw_below_drewN | apply below_drew1) | exact HB.out)⟩
                    · rw [if_neg c25] at H
                      have c25b0 : ((2 * 0) == 1) = false := beq_eq_false_iff_ne.mpr c25
                      have c25b1 : ((2 * 0) != 1) = true := bne_iff_ne.mpr c25
                      obtain ⟨ji29, hji29⟩ : ∃ j_ : Int, (mn (wrap64 ((wrap64 ((wrap64 ((ji6) + 24)) * 1024)) + (ji22))) 31744) = j_ := ⟨_, rfl⟩
                      replace H : (some (IntKind.u16.wrap (ji29))) = some r := by first | (rw [hji29] at H; exact H) | (simp only [hji29] at H ⊢; exact H)
                      have hji29_ : (if 31744 < (wrap64 ((wrap64 ((wrap64 ((ji6) + 24)) * 1024)) + (ji22))) then 31744 else (wrap64 ((wrap64 ((wrap64 ((ji6) + 24)) * 1024)) + (ji22)))) = ji29 := hji29
                      obtain rfl := Option.some.inj H
                      go_wp2
                      all_goals repeat (go_quiet (fail); try go_wp2)
                      all_goals go_ret
                      all_goals exact ⟨by first | rfl | (simp [errW_none, errW_some] <;> rfl) | (simp only [← hji6, ← hji20, ← hji22, ← hji29]; first | rfl | (simp [errW_none, errW_some] <;> rfl)) | (simp [*, errW_none, errW_some] <;> rfl), by repeat (first | (with_reducible first | exact HB.out | apply below_alloc | apply pw_below_drewN | apply below_drew1) | exact HB.out)⟩
                · rw [if_neg c21] at H
                  exact absurd H (by simp)


/-! ### laws_FnHalfFrom: function 6 -/
def laws_FnHalfFrom.f (k : Nat) (a0 : Int) : Option (Bool) := (spec_SingleKind.f a0).bind fun t136 => (if t136 = 2 then (some true) else ((impl_HalfFrom.f a0).bind fun t137 => (if (t137 / 32768) = (IntKind.u16.wrap (a0 / 2147483648)) then ((spec_SingleKind.f a0).bind fun t138 => (if t138 = 1 then (some ((Go.bits .and .u16 t137 32767) == 31744)) else ((spec_SingleValue.f a0).bind fun bt139 => ((spec_HalfRound.f k bt139.1 bt139.2).bind fun t141 => (some ((Go.bits .and .u16 t137 32767) == t141)))))) else (some false))))
theorem laws_FnHalfFrom.mono : ∀ a0 k, LeO (laws_FnHalfFrom.f k a0) (laws_FnHalfFrom.f (k + 1) a0) := by
  intro a0 k
  unfold laws_FnHalfFrom.f
  repeat' first
      | (with_reducible exact spec_HalfRound.mono _ _ _)
      | (with_reducible exact LeO.refl _)
      | (with_reducible exact LeO.none _)
      | (with_reducible refine LeO.ite ?_ ?_)
      | (with_reducible refine LeO.bind ?_ (fun _ => ?_))
      | exact spec_HalfRound.mono _ _ _
      | exact LeO.none _
      | refine LeO.ite ?_ ?_
      | refine LeO.bind ?_ (fun _ => ?_)
set_option maxHeartbeats 8000000 in
set_option maxRecDepth 100000 in
theorem laws_FnHalfFrom.calls (k : Nat) (a0 : Int) (r : Bool) (w : World) (h : laws_FnHalfFrom.f k a0 = some r) :
    Calls Try.prog 6 #[.int .u32 a0] w fun e w' => e = .returned (.bool r) ∧ Below w.heap.size w w' := by
  have HB := Aside0.mk (Below.refl w.heap.size w)
  have H : ((spec_SingleKind.f a0).bind fun t136 => (if t136 = 2 then (some true) else ((impl_HalfFrom.f a0).bind fun t137 => (if (t137 / 32768) = (IntKind.u16.wrap (a0 / 2147483648)) then ((spec_SingleKind.f a0).bind fun t138 => (if t138 = 1 then (some ((Go.bits .and .u16 t137 32767) == 31744)) else ((spec_SingleValue.f a0).bind fun bt139 => ((spec_HalfRound.f k bt139.1 bt139.2).bind fun t141 => (some ((Go.bits .and .u16 t137 32767) == t141)))))) else (some false))))) = some r := h
  clear h
  replace H := Option.bind_eq_some_iff.mp H
  obtain ⟨t136, A20, H⟩ := H
  replace H : (if t136 = 2 then (some true) else ((impl_HalfFrom.f a0).bind fun t137 => (if (t137 / 32768) = (IntKind.u16.wrap (a0 / 2147483648)) then ((spec_SingleKind.f a0).bind fun t138 => (if t138 = 1 then (some ((Go.bits .and .u16 t137 32767) == 31744)) else ((spec_SingleValue.f a0).bind fun bt139 => ((spec_HalfRound.f k bt139.1 bt139.2).bind fun t141 => (some ((Go.bits .and .u16 t137 32767) == t141)))))) else (some false)))) = some r := H
  have A2 := Aside0.mk A20
  clear A20
  by_cases c3 : t136 = 2
  · rw [if_pos c3] at H
    have c3b0 : (t136 == 2) = true := beq_iff_eq.mpr c3
    have c3b1 : (t136 != 2) = false := bne_eq_false_iff_eq.mpr c3
    clear c3
    obtain rfl := Option.some.inj H
    go_enter Try.func6, Try.ntmps6
    go_wp2_with (first | ((with_reducible refine gate_callee (f := 19) rfl ?_); refine goesL_ (some 7) rfl rfl Try.func19 (by kernel_rfl) rfl #[.int .u32 a0] rfl (by (try simp only [List.map_toArray, List.map_cons, List.map_nil]); first | done | rfl | (simp only [List.length_drop, List.length_take]; rfl)) ?_; (with_reducible refine (spec_SingleKind.calls a0 t136 _ A2.out).mono ?_); rintro e w' ⟨rfl, ⟨nd, rfl⟩⟩; refine ⟨_, rfl, ?_⟩))
    go_ret
    exact ⟨by first | rfl | (simp [errW_none, errW_some] <;> rfl) | (simp [*, errW_none, errW_some] <;> rfl), by repeat (first | (with_reducible first | exact HB.out | apply below_alloc | apply pw_below_drewN | apply below_drew1) | exact HB.out)⟩
  · rw [if_neg c3] at H
    have c3b0 : (t136 == 2) = false := beq_eq_false_iff_ne.mpr c3
    have c3b1 : (t136 != 2) = true := bne_iff_ne.mpr c3
    replace H := Option.bind_eq_some_iff.mp H
    obtain ⟨t137, A40, H⟩ := H
    replace H : (if (t137 / 32768) = (IntKind.u16.wrap (a0 / 2147483648)) then ((spec_SingleKind.f a0).bind fun t138 => (if t138 = 1 then (some ((Go.bits .and .u16 t137 32767) == 31744)) else ((spec_SingleValue.f a0).bind fun bt139 => ((spec_HalfRound.f k bt139.1 bt139.2).bind fun t141 => (some ((Go.bits .and .u16 t137 32767) == t141)))))) else (some false)) = some r := H
    have A4 := Aside0.mk A40
    clear A40
    by_cases c5 : (t137 / 32768) = (IntKind.u16.wrap (a0 / 2147483648))
    · rw [if_pos c5] at H
      have c5b0 : ((t137 / 32768) == (IntKind.u16.wrap (a0 / 2147483648))) = true := beq_iff_eq.mpr c5
      have c5b1 : ((t137 / 32768) != (IntKind.u16.wrap (a0 / 2147483648))) = false := bne_eq_false_iff_eq.mpr c5
      clear c5
      replace H := Option.bind_eq_some_iff.mp H
      obtain ⟨t138, A60, H⟩ := H
      replace H : (if t138 = 1 then (some ((Go.bits .and .u16 t137 32767) == 31744)) else ((spec_SingleValue.f a0).bind fun bt139 => ((spec_HalfRound.f k bt139.1 bt139.2).bind fun t141 => (some ((Go.bits .and .u16 t137 32767) == t141))))) = some r := H
      have A6 := Aside0.mk A60
      clear A60
      by_cases c7 : t138 = 1
      · rw [if_pos c7] at H
        have c7b0 : (t138 == 1) = true := beq_iff_eq.mpr c7
        have c7b1 : (t138 != 1) = false := bne_eq_false_iff_eq.mpr c7
        clear c7
        obtain rfl := Option.some.inj H
        go_enter Try.func6, Try.ntmps6
        go_wp2_with (first | ((with_reducible refine gate_callee (f := 19) rfl ?_); refine goesL_ (some 7) rfl rfl Try.func19 (by kernel_rfl) rfl #[.int .u32 a0] rfl (by (try simp only [List.map_toArray, List.map_cons, List.map_nil]); first | done | rfl | (simp only [List.length_drop, List.length_take]; rfl)) ?_; (with_reducible refine (spec_SingleKind.calls a0 t136 _ A2.out).mono ?_); rintro e w' ⟨rfl, ⟨nd, rfl⟩⟩; refine ⟨_, rfl, ?_⟩) | ((with_reducible refine gate_callee (f := 23) rfl ?_); refine goesL_ (some 10) rfl rfl Try.func23 (by kernel_rfl) rfl #[.int .u32 a0] rfl (by (try simp only [List.map_toArray, List.map_cons, List.map_nil]); first | done | rfl | (simp only [List.length_drop, List.length_take]; rfl)) ?_; (with_reducible refine (impl_HalfFrom.calls a0 t137 _ A4.out).mono ?_); rintro e w' ⟨rfl, ⟨nd, rfl⟩⟩; refine ⟨_, rfl, ?_⟩) | ((with_reducible refine gate_callee (f := 19) rfl ?_); refine goesL_ (some 18) rfl rfl Try.func19 (by kernel_rfl) rfl #[.int .u32 a0] rfl (by (try simp only [List.map_toArray, List.map_cons, List.map_nil]); first | done | rfl | (simp only [List.length_drop, List.length_take]; rfl)) ?_; (with_reducible refine (spec_SingleKind.calls a0 t138 _ A6.out).mono ?_); rintro e w' ⟨rfl, ⟨nd, rfl⟩⟩; refine ⟨_, rfl, ?_⟩))
        go_ret
        exact ⟨by first | rfl | (simp [errW_none, errW_some] <;> rfl) | (simp [*, errW_none, errW_some] <;> rfl), by repeat (first | (with_reducible first | exact HB.out | apply below_alloc | apply pw_below_drewN | apply below_drew1) | exact HB.out)⟩
      · rw [if_neg c7] at H
        have c7b0 : (t138 == 1) = false := beq_eq_false_iff_ne.mpr c7
        have c7b1 : (t138 != 1) = true := bne_iff_ne.mpr c7
        replace H := Option.bind_eq_some_iff.mp H
        obtain ⟨⟨t139, t140⟩, A80, H⟩ := H
        replace H : ((spec_HalfRound.f k t139 t140).bind fun t141 => (some ((Go.bits .and .u16 t137 32767) == t141))) = some r := H
        have A8 := Aside0.mk A80
        clear A80
        replace H := Option.bind_eq_some_iff.mp H
        obtain ⟨t141, A90, H⟩ := H
        replace H : (some ((Go.bits .and .u16 t137 32767) == t141)) = some r := H
        have A9 := Aside0.mk A90
        clear A90
        obtain rfl := Option.some.inj H
        go_enter Try.func6, Try.ntmps6
        go_wp2_with (first | ((with_reducible refine gate_callee (f := 19) rfl ?_); refine goesL_ (some 7) rfl rfl Try.func19 (by kernel_rfl) rfl #[.int .u32 a0] rfl (by (try simp only [List.map_toArray, List.map_cons, List.map_nil]); first | done | rfl | (simp only [List.length_drop, List.length_take]; rfl)) ?_; (with_reducible refine (spec_SingleKind.calls a0 t136 _ A2.out).mono ?_); rintro e w' ⟨rfl, ⟨nd, rfl⟩⟩; refine ⟨_, rfl, ?_⟩) | ((with_reducible refine gate_callee (f := 23) rfl ?_); refine goesL_ (some 10) rfl rfl Try.func23 (by kernel_rfl) rfl #[.int .u32 a0] rfl (by (try simp only [List.map_toArray, List.map_cons, List.map_nil]); first | done | rfl | (simp only [List.length_drop, List.length_take]; rfl)) ?_; (with_reducible refine (impl_HalfFrom.calls a0 t137 _ A4.out).mono ?_); rintro e w' ⟨rfl, ⟨nd, rfl⟩⟩; refine ⟨_, rfl, ?_⟩) | ((with_reducible refine gate_callee (f := 19) rfl ?_); refine goesL_ (some 18) rfl rfl Try.func19 (by kernel_rfl) rfl #[.int .u32 a0] rfl (by (try simp only [List.map_toArray, List.map_cons, List.map_nil]); first | done | rfl | (simp only [List.length_drop, List.length_take]; rfl)) ?_; (with_reducible refine (spec_SingleKind.calls a0 t138 _ A6.out).mono ?_); rintro e w' ⟨rfl, ⟨nd, rfl⟩⟩; refine ⟨_, rfl, ?_⟩) | ((with_reducible refine gate_callee (f := 21) rfl ?_); refine goesL_ (some 25) rfl rfl Try.func21 (by kernel_rfl) rfl #[.int .u32 a0] rfl (by (try simp only [List.map_toArray, List.map_cons, List.map_nil]); first | done | rfl | (simp only [List.length_drop, List.length_take]; rfl)) ?_; (with_reducible refine (spec_SingleValue.calls a0 t139 t140 _ A8.out).mono ?_); rintro e w' ⟨rfl, ⟨nd, rfl⟩⟩; refine ⟨_, rfl, ?_⟩) | ((with_reducible refine gate_callee (f := 24) rfl ?_); refine goesL_ (some 32) rfl rfl Try.func24 (by kernel_rfl) rfl #[.int .i64 t139, .int .i64 t140] rfl (by (try simp only [List.map_toArray, List.map_cons, List.map_nil]); first | done | rfl | (simp only [List.length_drop, List.length_take]; rfl)) ?_; (with_reducible refine (spec_HalfRound.calls k t139 t140 t141 _ A9.out).mono ?_); rintro e w10 ⟨rfl, hb⟩; refine ⟨_, rfl, ?_⟩; have n0_ := Aside0.mk (below_step (by repeat (first | (with_reducible first | exact HB.out | apply below_alloc | apply pw_below_drewN | apply below_drew1) | exact HB.out)) hb); clear HB; have HB := n0_; clear n0_; (try clear hb); (try clear hb2); (try clear hk); (try clear hi)))
        go_ret
        exact ⟨by first | rfl | (simp [errW_none, errW_some] <;> rfl) | (simp [*, errW_none, errW_some] <;> rfl), by repeat (first | (with_reducible first | exact HB.out | apply below_alloc | apply pw_below_drewN | apply below_drew1) | exact HB.out)⟩
    · rw [if_neg c5] at H
      have c5b0 : ((t137 / 32768) == (IntKind.u16.wrap (a0 / 2147483648))) = false := beq_eq_false_iff_ne.mpr c5
      have c5b1 : ((t137 / 32768) != (IntKind.u16.wrap (a0 / 2147483648))) = true := bne_iff_ne.mpr c5
      obtain rfl := Option.some.inj H
      go_enter Try.func6, Try.ntmps6
      go_wp2_with (first | ((with_reducible refine gate_callee (f := 19) rfl ?_); refine goesL_ (some 7) rfl rfl Try.func19 (by kernel_rfl) rfl #[.int .u32 a0] rfl (by (try simp only [List.map_toArray, List.map_cons, List.map_nil]); first | done | rfl | (simp only [List.length_drop, List.length_take]; rfl)) ?_; (with_reducible refine (spec_SingleKind.calls a0 t136 _ A2.out).mono ?_); rintro e w' ⟨rfl, ⟨nd, rfl⟩⟩; refine ⟨_, rfl, ?_⟩) | ((with_reducible refine gate_callee (f := 23) rfl ?_); refine goesL_ (some 10) rfl rfl Try.func23 (by kernel_rfl) rfl #[.int .u32 a0] rfl (by (try simp only [List.map_toArray, List.map_cons, List.map_nil]); first | done | rfl | (simp only [List.length_drop, List.length_take]; rfl)) ?_; (with_reducible refine (impl_HalfFrom.calls a0 t137 _ A4.out).mono ?_); rintro e w' ⟨rfl, ⟨nd, rfl⟩⟩; refine ⟨_, rfl, ?_⟩))
      go_ret
      exact ⟨by first | rfl | (simp [errW_none, errW_some] <;> rfl) | (simp [*, errW_none, errW_some] <;> rfl), by repeat (first | (with_reducible first | exact HB.out | apply below_alloc | apply pw_below_drewN | apply below_drew1) | exact HB.out)⟩

/-- THE ONE PURE STATEMENT of laws_FnHalfFrom: yours. -/
def laws_FnHalfFrom.Pure : Prop := ∀ (a0 : Int), (Lit.int .u32 a0).wf = true → ∃ k, laws_FnHalfFrom.f k a0 = some true
theorem laws_FnHalfFrom.walk (P : laws_FnHalfFrom.Pure) (a0 : Int) (w : World) (w0 : (Lit.int .u32 a0).wf = true) :
    Calls Try.prog 6 #[.int .u32 a0] w fun e w' => e = .returned (.bool true) ∧ Below w.heap.size w w' := by
  obtain ⟨k, h⟩ := P a0 w0
  refine (laws_FnHalfFrom.calls k a0 true w h).mono ?_
  rintro e w' ⟨rfl, hd⟩
  exact ⟨rfl, hd⟩


/-! ### laws_FnHalfNearest: function 7 -/
mutual
def laws_FnHalfNearest.j0 : Nat → Int → Int → Int → Bool → Option (Bool)
  | 0, _, _, _, _ => none
  | k + 1, x0, x3, x4, x32 => if x32 = true then (some true) else ((impl_HalfFrom.f x0).bind fun t145 => ((spec_HalfKind.f (Go.bits .and .u16 t145 32767)).bind fun t146 => (if t146 = 0 then ((some (([IntKind.u16.wrap ((Go.bits .and .u16 t145 32767) - 1), IntKind.u16.wrap ((Go.bits .and .u16 t145 32767) + 1)] : List Int) : List Int)).bind fun y147 => (laws_FnHalfNearest.l0 k x3 x4 (Go.bits .and .u16 t145 32767) y147 (y147.length : Int) 0)) else (some false))))
def laws_FnHalfNearest.l0 : Nat → Int → Int → Int → List Int → Int → Int → Option (Bool)
  | 0, _, _, _, _, _, _ => none
  | k + 1, x3, x4, x5, x43, x44, x45 => if x45 < x44 then (if 0 ≤ x45 then (if x45 < (x43.length : Int) then (if (rd x43 x45) > 31743 then (laws_FnHalfNearest.l0 k x3 x4 x5 x43 x44 (wrap64 (x45 + 1))) else ((spec_HalfValue.f x5).bind fun bt151 => ((spec_HalfValue.f (rd x43 x45)).bind fun bt153 => (if 0 ≤ (wrap64 (x4 - (mn (mn x4 bt151.2) bt153.2))) then (if 0 ≤ (wrap64 (bt151.2 - (mn (mn x4 bt151.2) bt153.2))) then (if 0 ≤ (wrap64 (bt153.2 - (mn (mn x4 bt151.2) bt153.2))) then (if (mx (wrap64 ((shl .i64 x3 (wrap64 (x4 - (mn (mn x4 bt151.2) bt153.2)))) - (shl .i64 bt151.1 (wrap64 (bt151.2 - (mn (mn x4 bt151.2) bt153.2)))))) (wrap64 (-(wrap64 ((shl .i64 x3 (wrap64 (x4 - (mn (mn x4 bt151.2) bt153.2)))) - (shl .i64 bt151.1 (wrap64 (bt151.2 - (mn (mn x4 bt151.2) bt153.2))))))))) > (mx (wrap64 ((shl .i64 x3 (wrap64 (x4 - (mn (mn x4 bt151.2) bt153.2)))) - (shl .i64 bt153.1 (wrap64 (bt153.2 - (mn (mn x4 bt151.2) bt153.2)))))) (wrap64 (-(wrap64 ((shl .i64 x3 (wrap64 (x4 - (mn (mn x4 bt151.2) bt153.2)))) - (shl .i64 bt153.1 (wrap64 (bt153.2 - (mn (mn x4 bt151.2) bt153.2))))))))) then (some false) else (if (mx (wrap64 ((shl .i64 x3 (wrap64 (x4 - (mn (mn x4 bt151.2) bt153.2)))) - (shl .i64 bt151.1 (wrap64 (bt151.2 - (mn (mn x4 bt151.2) bt153.2)))))) (wrap64 (-(wrap64 ((shl .i64 x3 (wrap64 (x4 - (mn (mn x4 bt151.2) bt153.2)))) - (shl .i64 bt151.1 (wrap64 (bt151.2 - (mn (mn x4 bt151.2) bt153.2))))))))) = (mx (wrap64 ((shl .i64 x3 (wrap64 (x4 - (mn (mn x4 bt151.2) bt153.2)))) - (shl .i64 bt153.1 (wrap64 (bt153.2 - (mn (mn x4 bt151.2) bt153.2)))))) (wrap64 (-(wrap64 ((shl .i64 x3 (wrap64 (x4 - (mn (mn x4 bt151.2) bt153.2)))) - (shl .i64 bt153.1 (wrap64 (bt153.2 - (mn (mn x4 bt151.2) bt153.2))))))))) then (if (Int.tmod x5 2) = 1 then (some false) else (laws_FnHalfNearest.l0 k x3 x4 x5 x43 x44 (wrap64 (x45 + 1)))) else (laws_FnHalfNearest.l0 k x3 x4 x5 x43 x44 (wrap64 (x45 + 1))))) else (none)) else (none)) else (none))))) else (none)) else (none)) else (some true)
end
def laws_FnHalfNearest.f (k : Nat) (a0 : Int) : Option (Bool) := (spec_SingleValue.f a0).bind fun bt142 => ((spec_SingleKind.f a0).bind fun t144 => (if t144 = 0 then (if (Go.bits .and .u32 a0 2147483647) < 847249408 then (laws_FnHalfNearest.j0 k a0 bt142.1 bt142.2 true) else (laws_FnHalfNearest.j0 k a0 bt142.1 bt142.2 (decide ((Go.bits .and .u32 a0 2147483647) ≥ 1199566848)))) else (laws_FnHalfNearest.j0 k a0 bt142.1 bt142.2 true)))
theorem laws_FnHalfNearest.mono_l : ∀ k, (∀ y0 y1 y2 y3, LeO (laws_FnHalfNearest.j0 k y0 y1 y2 y3) (laws_FnHalfNearest.j0 (k + 1) y0 y1 y2 y3)) ∧ (∀ y0 y1 y2 y3 y4 y5, LeO (laws_FnHalfNearest.l0 k y0 y1 y2 y3 y4 y5) (laws_FnHalfNearest.l0 (k + 1) y0 y1 y2 y3 y4 y5))
  | 0 => ⟨fun _ _ _ _ r h => by simp [laws_FnHalfNearest.j0] at h, fun _ _ _ _ _ _ r h => by simp [laws_FnHalfNearest.l0] at h⟩
  | k + 1 => by
    obtain ⟨ih0, ih1⟩ := laws_FnHalfNearest.mono_l k
    refine ⟨?_, ?_⟩
    · intro y0 y1 y2 y3
      unfold laws_FnHalfNearest.j0
      repeat' first
      | (with_reducible exact ih0 _ _ _ _)
      | (with_reducible exact ih1 _ _ _ _ _ _)
      | (with_reducible exact LeO.refl _)
      | (with_reducible exact LeO.none _)
      | (with_reducible refine LeO.ite ?_ ?_)
      | (with_reducible refine LeO.bind ?_ (fun _ => ?_))
      | exact ih0 _ _ _ _
      | exact ih1 _ _ _ _ _ _
      | exact LeO.none _
      | refine LeO.ite ?_ ?_
      | refine LeO.bind ?_ (fun _ => ?_)
    · intro y0 y1 y2 y3 y4 y5
      unfold laws_FnHalfNearest.l0
      repeat' first
      | (with_reducible exact ih0 _ _ _ _)
      | (with_reducible exact ih1 _ _ _ _ _ _)
      | (with_reducible exact LeO.refl _)
      | (with_reducible exact LeO.none _)
      | (with_reducible refine LeO.ite ?_ ?_)
      | (with_reducible refine LeO.bind ?_ (fun _ => ?_))
      | exact ih0 _ _ _ _
      | exact ih1 _ _ _ _ _ _
      | exact LeO.none _
      | refine LeO.ite ?_ ?_
      | refine LeO.bind ?_ (fun _ => ?_)
theorem laws_FnHalfNearest.mono : ∀ a0 k, LeO (laws_FnHalfNearest.f k a0) (laws_FnHalfNearest.f (k + 1) a0) := by
  intro a0 k
  obtain ⟨ih0, ih1⟩ := laws_FnHalfNearest.mono_l k
  unfold laws_FnHalfNearest.f
  repeat' first
      | (with_reducible exact ih0 _ _ _ _)
      | (with_reducible exact ih1 _ _ _ _ _ _)
      | (with_reducible exact LeO.refl _)
      | (with_reducible exact LeO.none _)
      | (with_reducible refine LeO.ite ?_ ?_)
      | (with_reducible refine LeO.bind ?_ (fun _ => ?_))
      | exact ih0 _ _ _ _
      | exact ih1 _ _ _ _ _ _
      | exact LeO.none _
      | refine LeO.ite ?_ ?_
      | refine LeO.bind ?_ (fun _ => ?_)
set_option maxHeartbeats 8000000 in
set_option maxRecDepth 100000 in
theorem laws_FnHalfNearest.calls (k : Nat) (a0 : Int) (r : Bool) (w : World) (h : laws_FnHalfNearest.f k a0 = some r) :
    Calls Try.prog 7 #[.int .u32 a0] w fun e w' => e = .returned (.bool r) ∧ Below w.heap.size w w' := by
  have HB := Aside0.mk (Below.refl w.heap.size w)
  have H : ((spec_SingleValue.f a0).bind fun bt142 => ((spec_SingleKind.f a0).bind fun t144 => (if t144 = 0 then (if (Go.bits .and .u32 a0 2147483647) < 847249408 then (laws_FnHalfNearest.j0 k a0 bt142.1 bt142.2 true) else (laws_FnHalfNearest.j0 k a0 bt142.1 bt142.2 (decide ((Go.bits .and .u32 a0 2147483647) ≥ 1199566848)))) else (laws_FnHalfNearest.j0 k a0 bt142.1 bt142.2 true)))) = some r := h
  clear h
  replace H := Option.bind_eq_some_iff.mp H
  obtain ⟨⟨t142, t143⟩, A20, H⟩ := H
  replace H : ((spec_SingleKind.f a0).bind fun t144 => (if t144 = 0 then (if (Go.bits .and .u32 a0 2147483647) < 847249408 then (laws_FnHalfNearest.j0 k a0 t142 t143 true) else (laws_FnHalfNearest.j0 k a0 t142 t143 (decide ((Go.bits .and .u32 a0 2147483647) ≥ 1199566848)))) else (laws_FnHalfNearest.j0 k a0 t142 t143 true))) = some r := H
  have A2 := Aside0.mk A20
  clear A20
  have HC3 := Aside0.mk H
  clear H
  go_enter Try.func7, Try.ntmps7
  go_upto_region 2 with (first | (go_at_call 21; (with_reducible refine (spec_SingleValue.calls a0 t142 t143 _ A2.out).mono ?_); rintro e w' ⟨rfl, ⟨nd, rfl⟩⟩; (try first | exact ⟨rfl, _, World.drewN_drewN _ _ _⟩ | exact ⟨rfl, _, Eq.trans (World.drewN_drewN _ _ _) (congrArg (World.drewN _) (Nat.add_assoc _ _ _))⟩)))
  repeat (go_quiet (first | (go_at_call 21; (with_reducible refine (spec_SingleValue.calls a0 t142 t143 _ A2.out).mono ?_); rintro e w' ⟨rfl, ⟨nd, rfl⟩⟩; (try first | exact ⟨rfl, _, World.drewN_drewN _ _ _⟩ | exact ⟨rfl, _, Eq.trans (World.drewN_drewN _ _ _) (congrArg (World.drewN _) (Nat.add_assoc _ _ _))⟩))); go_upto_region 2 with (first | (go_at_call 21; (with_reducible refine (spec_SingleValue.calls a0 t142 t143 _ A2.out).mono ?_); rintro e w' ⟨rfl, ⟨nd, rfl⟩⟩; (try first | exact ⟨rfl, _, World.drewN_drewN _ _ _⟩ | exact ⟨rfl, _, Eq.trans (World.drewN_drewN _ _ _) (congrArg (World.drewN _) (Nat.add_assoc _ _ _))⟩))))
  (try simp only [Act.put, List.setIfInBounds_toArray, List.set_cons_zero, List.set_cons_succ])
  go_cut [32] (fun v32 wc => ∃ (kq : Nat) (x32_2 : Bool), v32 = .bool x32_2 ∧ Aside0 (laws_FnHalfNearest.j0 kq a0 t142 t143 x32_2 = some r) ∧ Aside0 (kq ≤ k) ∧ Aside0 (Below w.heap.size w wc))
  case first =>
    have H := HC3.out
    clear HC3
    replace H := Option.bind_eq_some_iff.mp H
    obtain ⟨t144, A40, H⟩ := H
    replace H : (if t144 = 0 then (if (Go.bits .and .u32 a0 2147483647) < 847249408 then (laws_FnHalfNearest.j0 k a0 t142 t143 true) else (laws_FnHalfNearest.j0 k a0 t142 t143 (decide ((Go.bits .and .u32 a0 2147483647) ≥ 1199566848)))) else (laws_FnHalfNearest.j0 k a0 t142 t143 true)) = some r := H
    have A4 := Aside0.mk A40
    clear A40
    by_cases c5 : t144 = 0
    · rw [if_pos c5] at H
      have c5b0 : (t144 == 0) = true := beq_iff_eq.mpr c5
      have c5b1 : (t144 != 0) = false := bne_eq_false_iff_eq.mpr c5
      clear c5
      (first | rw [c5b0] | (simp only [i64_w, i32_w]; rw [c5b0]) | skip)
      by_cases c6 : (Go.bits .and .u32 a0 2147483647) < 847249408
      · rw [if_pos c6] at H
        have c6b0 : decide ((Go.bits .and .u32 a0 2147483647) < 847249408) = true := decide_eq_true c6
        clear c6
        have H' := Aside0.mk H
        clear H
        go_wp2_with (first | (go_at_call 19; (with_reducible refine (spec_SingleKind.calls a0 t144 _ A4.out).mono ?_); rintro e w' ⟨rfl, ⟨nd, rfl⟩⟩; (try first | exact ⟨rfl, _, World.drewN_drewN _ _ _⟩ | exact ⟨rfl, _, Eq.trans (World.drewN_drewN _ _ _) (congrArg (World.drewN _) (Nat.add_assoc _ _ _))⟩)))
        repeat (go_quiet (first | (go_at_call 19; (with_reducible refine (spec_SingleKind.calls a0 t144 _ A4.out).mono ?_); rintro e w' ⟨rfl, ⟨nd, rfl⟩⟩; (try first | exact ⟨rfl, _, World.drewN_drewN _ _ _⟩ | exact ⟨rfl, _, Eq.trans (World.drewN_drewN _ _ _) (congrArg (World.drewN _) (Nat.add_assoc _ _ _))⟩))); try go_wp2_with (first | (go_at_call 19; (with_reducible refine (spec_SingleKind.calls a0 t144 _ A4.out).mono ?_); rintro e w' ⟨rfl, ⟨nd, rfl⟩⟩; (try first | exact ⟨rfl, _, World.drewN_drewN _ _ _⟩ | exact ⟨rfl, _, Eq.trans (World.drewN_drewN _ _ _) (congrArg (World.drewN _) (Nat.add_assoc _ _ _))⟩))))
        go_meet
        case rel => exact ⟨_, (true), (by first | rfl | (simp; done) | (simp [*]; done)), H', ⟨by first | omega | exact Nat.le_refl _⟩, ⟨by repeat (first | (with_reducible first | exact HB.out | apply below_alloc | apply pw_below_drewN | apply below_drew1) | exact HB.out)⟩⟩
      · rw [if_neg c6] at H
        have c6b0 : decide ((Go.bits .and .u32 a0 2147483647) < 847249408) = false := decide_eq_false c6
        clear c6
        have H' := Aside0.mk H
        clear H
        go_wp2_with (first | (go_at_call 19; (with_reducible refine (spec_SingleKind.calls a0 t144 _ A4.out).mono ?_); rintro e w' ⟨rfl, ⟨nd, rfl⟩⟩; (try first | exact ⟨rfl, _, World.drewN_drewN _ _ _⟩ | exact ⟨rfl, _, Eq.trans (World.drewN_drewN _ _ _) (congrArg (World.drewN _) (Nat.add_assoc _ _ _))⟩)))
        repeat (go_quiet (first | (go_at_call 19; (with_reducible refine (spec_SingleKind.calls a0 t144 _ A4.out).mono ?_); rintro e w' ⟨rfl, ⟨nd, rfl⟩⟩; (try first | exact ⟨rfl, _, World.drewN_drewN _ _ _⟩ | exact ⟨rfl, _, Eq.trans (World.drewN_drewN _ _ _) (congrArg (World.drewN _) (Nat.add_assoc _ _ _))⟩))); try go_wp2_with (first | (go_at_call 19; (with_reducible refine (spec_SingleKind.calls a0 t144 _ A4.out).mono ?_); rintro e w' ⟨rfl, ⟨nd, rfl⟩⟩; (try first | exact ⟨rfl, _, World.drewN_drewN _ _ _⟩ | exact ⟨rfl, _, Eq.trans (World.drewN_drewN _ _ _) (congrArg (World.drewN _) (Nat.add_assoc _ _ _))⟩))))
        go_meet
        case rel => exact ⟨_, (decide ((Go.bits .and .u32 a0 2147483647) ≥ 1199566848)), (by first | rfl | (simp; done) | (simp [*]; done)), H', ⟨by first | omega | exact Nat.le_refl _⟩, ⟨by repeat (first | (with_reducible first | exact HB.out | apply below_alloc | apply pw_below_drewN | apply below_drew1) | exact HB.out)⟩⟩
    · rw [if_neg c5] at H
      have c5b0 : (t144 == 0) = false := beq_eq_false_iff_ne.mpr c5
      have c5b1 : (t144 != 0) = true := bne_iff_ne.mpr c5
      (first | rw [c5b0] | (simp only [i64_w, i32_w]; rw [c5b0]) | skip)
      have H' := Aside0.mk H
      clear H
      go_wp2_with (first | (go_at_call 19; (with_reducible refine (spec_SingleKind.calls a0 t144 _ A4.out).mono ?_); rintro e w' ⟨rfl, ⟨nd, rfl⟩⟩; (try first | exact ⟨rfl, _, World.drewN_drewN _ _ _⟩ | exact ⟨rfl, _, Eq.trans (World.drewN_drewN _ _ _) (congrArg (World.drewN _) (Nat.add_assoc _ _ _))⟩)))
      repeat (go_quiet (first | (go_at_call 19; (with_reducible refine (spec_SingleKind.calls a0 t144 _ A4.out).mono ?_); rintro e w' ⟨rfl, ⟨nd, rfl⟩⟩; (try first | exact ⟨rfl, _, World.drewN_drewN _ _ _⟩ | exact ⟨rfl, _, Eq.trans (World.drewN_drewN _ _ _) (congrArg (World.drewN _) (Nat.add_assoc _ _ _))⟩))); try go_wp2_with (first | (go_at_call 19; (with_reducible refine (spec_SingleKind.calls a0 t144 _ A4.out).mono ?_); rintro e w' ⟨rfl, ⟨nd, rfl⟩⟩; (try first | exact ⟨rfl, _, World.drewN_drewN _ _ _⟩ | exact ⟨rfl, _, Eq.trans (World.drewN_drewN _ _ _) (congrArg (World.drewN _) (Nat.add_assoc _ _ _))⟩))))
      go_meet
      case rel => exact ⟨_, (true), (by first | rfl | (simp; done) | (simp [*]; done)), H', ⟨by first | omega | exact Nat.le_refl _⟩, ⟨by repeat (first | (with_reducible first | exact HB.out | apply below_alloc | apply pw_below_drewN | apply below_drew1) | exact HB.out)⟩⟩
  case rest =>
    clear HC3
    try clear p2
    try clear c5
    try clear c5b0
    try clear c5b1
    try clear c6
    try clear c6b0
    obtain ⟨kq, x32_2, rfl, HA, HJ2, HB⟩ := hcut
    cases kq with
    | zero => exact absurd HA.out (by simp [laws_FnHalfNearest.j0])
    | succ kj2 =>
      have H := HA.out
      clear HA
      simp only [laws_FnHalfNearest.j0] at H
      by_cases c7 : x32_2 = true
      · subst c7
        have H1 : (some true) = some r := by rw [if_pos rfl] at H; exact H
        clear H
        have H := H1
        clear H1
        obtain rfl := Option.some.inj H
        go_wp2
        repeat (go_quiet (fail); try go_wp2)
        go_ret
        exact ⟨by first | rfl | (simp [errW_none, errW_some] <;> rfl) | (simp [*, errW_none, errW_some] <;> rfl), by repeat (first | (with_reducible first | exact HB.out | apply below_alloc | apply pw_below_drewN | apply below_drew1) | exact HB.out)⟩
      · replace c7 := Bool.eq_false_iff.mpr c7
        subst c7
        have H1 : ((impl_HalfFrom.f a0).bind fun t145 => ((spec_HalfKind.f (Go.bits .and .u16 t145 32767)).bind fun t146 => (if t146 = 0 then ((some (([IntKind.u16.wrap ((Go.bits .and .u16 t145 32767) - 1), IntKind.u16.wrap ((Go.bits .and .u16 t145 32767) + 1)] : List Int) : List Int)).bind fun y147 => (laws_FnHalfNearest.l0 kj2 t142 t143 (Go.bits .and .u16 t145 32767) y147 (y147.length : Int) 0)) else (some false)))) = some r := by rw [if_neg (show ¬ (false = true) by decide)] at H; exact H
        clear H
        have H := H1
        clear H1
        replace H := Option.bind_eq_some_iff.mp H
        obtain ⟨t145, A80, H⟩ := H
        replace H : ((spec_HalfKind.f (Go.bits .and .u16 t145 32767)).bind fun t146 => (if t146 = 0 then ((some (([IntKind.u16.wrap ((Go.bits .and .u16 t145 32767) - 1), IntKind.u16.wrap ((Go.bits .and .u16 t145 32767) + 1)] : List Int) : List Int)).bind fun y147 => (laws_FnHalfNearest.l0 kj2 t142 t143 (Go.bits .and .u16 t145 32767) y147 (y147.length : Int) 0)) else (some false))) = some r := H
        have A8 := Aside0.mk A80
        clear A80
        replace H := Option.bind_eq_some_iff.mp H
        obtain ⟨t146, A90, H⟩ := H
        replace H : (if t146 = 0 then ((some (([IntKind.u16.wrap ((Go.bits .and .u16 t145 32767) - 1), IntKind.u16.wrap ((Go.bits .and .u16 t145 32767) + 1)] : List Int) : List Int)).bind fun y147 => (laws_FnHalfNearest.l0 kj2 t142 t143 (Go.bits .and .u16 t145 32767) y147 (y147.length : Int) 0)) else (some false)) = some r := H
        have A9 := Aside0.mk A90
        clear A90
        by_cases c10 : t146 = 0
        · rw [if_pos c10] at H
          have c10b0 : (t146 == 0) = true := beq_iff_eq.mpr c10
          have c10b1 : (t146 != 0) = false := bne_eq_false_iff_eq.mpr c10
          clear c10
          obtain ⟨y147, hy147⟩ : ∃ y_ : List Int, y_ = (([IntKind.u16.wrap ((Go.bits .and .u16 t145 32767) - 1), IntKind.u16.wrap ((Go.bits .and .u16 t145 32767) + 1)] : List Int)) := ⟨_, rfl⟩
          replace H : (laws_FnHalfNearest.l0 kj2 t142 t143 (Go.bits .and .u16 t145 32767) y147 (y147.length : Int) 0) = some r := by first | (rw [hy147]; with_reducible exact H) | (have H2_ := (Option.bind_some _ _).symm.trans H; rw [hy147]; with_reducible exact H2_) | (have H2_ := (Option.bind_some _ _).symm.trans H; with_reducible exact H2_) | with_reducible exact H | (rw [hy147]; exact H) | exact H
          have Ny147 := Aside0.mk hy147
          clear hy147
          have H' := Aside0.mk H
          clear H
          go_wp2_with (first | (go_at_call 23; (with_reducible refine (impl_HalfFrom.calls a0 t145 _ A8.out).mono ?_); rintro e w' ⟨rfl, ⟨nd, rfl⟩⟩; (try first | exact ⟨rfl, _, World.drewN_drewN _ _ _⟩ | exact ⟨rfl, _, Eq.trans (World.drewN_drewN _ _ _) (congrArg (World.drewN _) (Nat.add_assoc _ _ _))⟩)) | (go_at_call 17; (with_reducible refine (spec_HalfKind.calls (Go.bits .and .u16 t145 32767) t146 _ A9.out).mono ?_); rintro e w' ⟨rfl, ⟨nd, rfl⟩⟩; (try first | exact ⟨rfl, _, World.drewN_drewN _ _ _⟩ | exact ⟨rfl, _, Eq.trans (World.drewN_drewN _ _ _) (congrArg (World.drewN _) (Nat.add_assoc _ _ _))⟩)) | ((with_reducible refine gate_dst (N := 43) rfl ?_); (try (refine gate_guard (by rfl) ?_; dsimp only)); refine Kd.R_lit (Kd.int .u16) _ 22 ?hg (N := 43) ?hd (xs := ([IntKind.u16.wrap ((Go.bits .and .u16 t145 32767) - 1), IntKind.u16.wrap ((Go.bits .and .u16 t145 32767) + 1)] : List Int)) (inner := [.int .u16 (IntKind.u16.wrap ((Go.bits .and .u16 t145 32767) - 1)), .int .u16 (IntKind.u16.wrap ((Go.bits .and .u16 t145 32767) + 1))]) (ok := fun _ => True) (okp := fun _ => True) ?hr ?hp (fun _ hk => hk) trivial (Below.refl _ _) (Nat.le_refl _) (by simp) ?_; (case hd => rfl); (case hg => rfl); (case hr => first | (go_simp; done) | (go_simp; rfl)); (case hp => exact (Reps.one (show Kd.M (Kd.int .u16) _ _ _ (IntKind.u16.wrap ((Go.bits .and .u16 t145 32767) - 1)) [.int .u16 (IntKind.u16.wrap ((Go.bits .and .u16 t145 32767) - 1))] from rfl) (Reps.one (show Kd.M (Kd.int .u16) _ _ _ (IntKind.u16.wrap ((Go.bits .and .u16 t145 32767) + 1)) [.int .u16 (IntKind.u16.wrap ((Go.bits .and .u16 t145 32767) + 1))] from rfl) (Reps.none _ _)))); intro v148 w11 ho12 hb hg_ hnew_; clear hg_ hnew_; (first | rw [← Ny147.out] at ho12 | (simp only [Int.reduceToNat] at ho12; rw [← Ny147.out] at ho12)); have n0_ := Aside0.mk (Kd.R_lower ho12 (below_size (by repeat (first | (with_reducible first | exact HB.out | apply below_alloc | apply pw_below_drewN | apply below_drew1) | exact HB.out)))); have n1_ := Aside0.mk (below_step (by repeat (first | (with_reducible first | exact HB.out | apply below_alloc | apply pw_below_drewN | apply below_drew1) | exact HB.out)) hb); clear HB; have HO149 := n0_; have HB := n1_; clear n0_ n1_; clear hb ho12; obtain ⟨Ao13, co13, eo13⟩ := Kd.R_slice HO149.out; subst eo13))
          repeat (go_quiet (first | (go_at_call 23; (with_reducible refine (impl_HalfFrom.calls a0 t145 _ A8.out).mono ?_); rintro e w' ⟨rfl, ⟨nd, rfl⟩⟩; (try first | exact ⟨rfl, _, World.drewN_drewN _ _ _⟩ | exact ⟨rfl, _, Eq.trans (World.drewN_drewN _ _ _) (congrArg (World.drewN _) (Nat.add_assoc _ _ _))⟩)) | (go_at_call 17; (with_reducible refine (spec_HalfKind.calls (Go.bits .and .u16 t145 32767) t146 _ A9.out).mono ?_); rintro e w' ⟨rfl, ⟨nd, rfl⟩⟩; (try first | exact ⟨rfl, _, World.drewN_drewN _ _ _⟩ | exact ⟨rfl, _, Eq.trans (World.drewN_drewN _ _ _) (congrArg (World.drewN _) (Nat.add_assoc _ _ _))⟩)) | ((with_reducible refine gate_dst (N := 43) rfl ?_); (try (refine gate_guard (by rfl) ?_; dsimp only)); refine Kd.R_lit (Kd.int .u16) _ 22 ?hg (N := 43) ?hd (xs := ([IntKind.u16.wrap ((Go.bits .and .u16 t145 32767) - 1), IntKind.u16.wrap ((Go.bits .and .u16 t145 32767) + 1)] : List Int)) (inner := [.int .u16 (IntKind.u16.wrap ((Go.bits .and .u16 t145 32767) - 1)), .int .u16 (IntKind.u16.wrap ((Go.bits .and .u16 t145 32767) + 1))]) (ok := fun _ => True) (okp := fun _ => True) ?hr ?hp (fun _ hk => hk) trivial (Below.refl _ _) (Nat.le_refl _) (by simp) ?_; (case hd => rfl); (case hg => rfl); (case hr => first | (go_simp; done) | (go_simp; rfl)); (case hp => exact (Reps.one (show Kd.M (Kd.int .u16) _ _ _ (IntKind.u16.wrap ((Go.bits .and .u16 t145 32767) - 1)) [.int .u16 (IntKind.u16.wrap ((Go.bits .and .u16 t145 32767) - 1))] from rfl) (Reps.one (show Kd.M (Kd.int .u16) _ _ _ (IntKind.u16.wrap ((Go.bits .and .u16 t145 32767) + 1)) [.int .u16 (IntKind.u16.wrap ((Go.bits .and .u16 t145 32767) + 1))] from rfl) (Reps.none _ _)))); intro v148 w11 ho12 hb hg_ hnew_; clear hg_ hnew_; (first | rw [← Ny147.out] at ho12 | (simp only [Int.reduceToNat] at ho12; rw [← Ny147.out] at ho12)); have n0_ := Aside0.mk (Kd.R_lower ho12 (below_size (by repeat (first | (with_reducible first | exact HB.out | apply below_alloc | apply pw_below_drewN | apply below_drew1) | exact HB.out)))); have n1_ := Aside0.mk (below_step (by repeat (first | (with_reducible first | exact HB.out | apply below_alloc | apply pw_below_drewN | apply below_drew1) | exact HB.out)) hb); clear HB; have HO149 := n0_; have HB := n1_; clear n0_ n1_; clear hb ho12; obtain ⟨Ao13, co13, eo13⟩ := Kd.R_slice HO149.out; subst eo13)); try go_wp2_with (first | (go_at_call 23; (with_reducible refine (impl_HalfFrom.calls a0 t145 _ A8.out).mono ?_); rintro e w' ⟨rfl, ⟨nd, rfl⟩⟩; (try first | exact ⟨rfl, _, World.drewN_drewN _ _ _⟩ | exact ⟨rfl, _, Eq.trans (World.drewN_drewN _ _ _) (congrArg (World.drewN _) (Nat.add_assoc _ _ _))⟩)) | (go_at_call 17; (with_reducible refine (spec_HalfKind.calls (Go.bits .and .u16 t145 32767) t146 _ A9.out).mono ?_); rintro e w' ⟨rfl, ⟨nd, rfl⟩⟩; (try first | exact ⟨rfl, _, World.drewN_drewN _ _ _⟩ | exact ⟨rfl, _, Eq.trans (World.drewN_drewN _ _ _) (congrArg (World.drewN _) (Nat.add_assoc _ _ _))⟩)) | ((with_reducible refine gate_dst (N := 43) rfl ?_); (try (refine gate_guard (by rfl) ?_; dsimp only)); refine Kd.R_lit (Kd.int .u16) _ 22 ?hg (N := 43) ?hd (xs := ([IntKind.u16.wrap ((Go.bits .and .u16 t145 32767) - 1), IntKind.u16.wrap ((Go.bits .and .u16 t145 32767) + 1)] : List Int)) (inner := [.int .u16 (IntKind.u16.wrap ((Go.bits .and .u16 t145 32767) - 1)), .int .u16 (IntKind.u16.wrap ((Go.bits .and .u16 t145 32767) + 1))]) (ok := fun _ => True) (okp := fun _ => True) ?hr ?hp (fun _ hk => hk) trivial (Below.refl _ _) (Nat.le_refl _) (by simp) ?_; (case hd => rfl); (case hg => rfl); (case hr => first | (go_simp; done) | (go_simp; rfl)); (case hp => exact (Reps.one (show Kd.M (Kd.int .u16) _ _ _ (IntKind.u16.wrap ((Go.bits .and .u16 t145 32767) - 1)) [.int .u16 (IntKind.u16.wrap ((Go.bits .and .u16 t145 32767) - 1))] from rfl) (Reps.one (show Kd.M (Kd.int .u16) _ _ _ (IntKind.u16.wrap ((Go.bits .and .u16 t145 32767) + 1)) [.int .u16 (IntKind.u16.wrap ((Go.bits .and .u16 t145 32767) + 1))] from rfl) (Reps.none _ _)))); intro v148 w11 ho12 hb hg_ hnew_; clear hg_ hnew_; (first | rw [← Ny147.out] at ho12 | (simp only [Int.reduceToNat] at ho12; rw [← Ny147.out] at ho12)); have n0_ := Aside0.mk (Kd.R_lower ho12 (below_size (by repeat (first | (with_reducible first | exact HB.out | apply below_alloc | apply pw_below_drewN | apply below_drew1) | exact HB.out)))); have n1_ := Aside0.mk (below_step (by repeat (first | (with_reducible first | exact HB.out | apply below_alloc | apply pw_below_drewN | apply below_drew1) | exact HB.out)) hb); clear HB; have HO149 := n0_; have HB := n1_; clear n0_ n1_; clear hb ho12; obtain ⟨Ao13, co13, eo13⟩ := Kd.R_slice HO149.out; subst eo13)))
          go_loopg [45] kj2 (fun kq v45 w' => ∃ (x45_2 : Int), v45 = .int .i64 x45_2 ∧ Aside0 (laws_FnHalfNearest.l0 kq t142 t143 (Go.bits .and .u16 t145 32767) y147 (y147.length : Int) x45_2 = some r) ∧ Aside0 (kq ≤ kj2) ∧ Aside0 (Kd.R (Kd.int .u16) 22 w' w.heap.size (fun _ => True) (.slice Ao13 y147.length co13) y147) ∧ Aside0 (Below w.heap.size w w'))
          case atStart => exact ⟨(0), (by first | rfl | (simp; done) | (simp [*]; done)), H', ⟨Nat.le_refl _⟩, ⟨by (with_reducible repeat (first | apply Kd.R_alloc | apply Kd.R_drewN | apply Kd.R_drew)); exact HO149.out⟩, ⟨by repeat (first | (with_reducible first | exact HB.out | apply below_alloc | apply pw_below_drewN | apply below_drew1) | exact HB.out)⟩⟩
          case round =>
            clear H'
            try clear c1
            try clear p2
            try clear c5
            try clear c5b0
            try clear c5b1
            try clear c6
            try clear c6b0
            try clear c7
            try clear c10
            try clear c10b0
            try clear c10b1
            try clear p2
            obtain ⟨x45_2, rfl, HA, HK2, HO_43, HB⟩ := hrel
            cases gk with
            | zero => exact absurd HA.out (by simp [laws_FnHalfNearest.l0])
            | succ k2 =>
              have H := HA.out
              clear HA
              simp only [laws_FnHalfNearest.l0] at H
              by_cases c14 : x45_2 < (y147.length : Int)
              · rw [if_pos c14] at H
                have c14b0 : decide (x45_2 < (y147.length : Int)) = true := decide_eq_true c14
                clear c14
                by_cases c15 : 0 ≤ x45_2
                · rw [if_pos c15] at H
                  have c15b0 : decide (0 ≤ x45_2) = true := decide_eq_true c15
                  clear c15
                  by_cases c16 : x45_2 < (y147.length : Int)
                  · rw [if_pos c16] at H
                    have c16b0 : decide (x45_2 < (y147.length : Int)) = true := decide_eq_true c16
                    clear c16
                    by_cases c17 : (rd y147 x45_2) > 31743
                    · rw [if_pos c17] at H
                      have c17b0 : decide (31743 < (rd y147 x45_2)) = true := decide_eq_true c17
                      clear c17
                      have H' := Aside0.mk H
                      clear H
                      have p150 : 0 ≤ (x45_2 : Int) := of_decide_eq_true (by first | (with_reducible assumption) | assumption)
                      have q150 : x45_2 < (y147.length : Int) := of_decide_eq_true (by first | (with_reducible assumption) | assumption)
                      obtain ⟨ad150, e150, hx150_0⟩ := Kd.at_int (Kd.R_reads' HO_43.out).2.2 x45_2 p150 q150
                      cases e150
                      replace p150 := eq_true p150
                      replace q150 := eq_true q150
                      go_wp2
                      repeat (go_quiet (fail); try go_wp2)
                      go_roundg k2
                      case measure => have := HJ2.out; have := HK2.out; omega
                      case rel => exact ⟨(wrap64 (x45_2 + 1)), (by first | rfl | (simp; done) | (simp [*]; done)), H', ⟨by have := HJ2.out; have := HK2.out; omega⟩, ⟨by (with_reducible repeat (first | apply Kd.R_alloc | apply Kd.R_drewN | apply Kd.R_drew)); exact HO_43.out⟩, ⟨by repeat (first | (with_reducible first | exact HB.out | apply below_alloc | apply pw_below_drewN | apply below_drew1) | exact HB.out)⟩⟩
                    · rw [if_neg c17] at H
                      have c17b0 : decide (31743 < (rd y147 x45_2)) = false := decide_eq_false c17
                      clear c17
                      replace H := Option.bind_eq_some_iff.mp H
                      obtain ⟨⟨t151, t152⟩, A180, H⟩ := H
                      replace H : ((spec_HalfValue.f (rd y147 x45_2)).bind fun bt153 => (if 0 ≤ (wrap64 (t143 - (mn (mn t143 t152) bt153.2))) then (if 0 ≤ (wrap64 (t152 - (mn (mn t143 t152) bt153.2))) then (if 0 ≤ (wrap64 (bt153.2 - (mn (mn t143 t152) bt153.2))) then (if (mx (wrap64 ((shl .i64 t142 (wrap64 (t143 - (mn (mn t143 t152) bt153.2)))) - (shl .i64 t151 (wrap64 (t152 - (mn (mn t143 t152) bt153.2)))))) (wrap64 (-(wrap64 ((shl .i64 t142 (wrap64 (t143 - (mn (mn t143 t152) bt153.2)))) - (shl .i64 t151 (wrap64 (t152 - (mn (mn t143 t152) bt153.2))))))))) > (mx (wrap64 ((shl .i64 t142 (wrap64 (t143 - (mn (mn t143 t152) bt153.2)))) - (shl .i64 bt153.1 (wrap64 (bt153.2 - (mn (mn t143 t152) bt153.2)))))) (wrap64 (-(wrap64 ((shl .i64 t142 (wrap64 (t143 - (mn (mn t143 t152) bt153.2)))) - (shl .i64 bt153.1 (wrap64 (bt153.2 - (mn (mn t143 t152) bt153.2))))))))) then (some false) else (if (mx (wrap64 ((shl .i64 t142 (wrap64 (t143 - (mn (mn t143 t152) bt153.2)))) - (shl .i64 t151 (wrap64 (t152 - (mn (mn t143 t152) bt153.2)))))) (wrap64 (-(wrap64 ((shl .i64 t142 (wrap64 (t143 - (mn (mn t143 t152) bt153.2)))) - (shl .i64 t151 (wrap64 (t152 - (mn (mn t143 t152) bt153.2))))))))) = (mx (wrap64 ((shl .i64 t142 (wrap64 (t143 - (mn (mn t143 t152) bt153.2)))) - (shl .i64 bt153.1 (wrap64 (bt153.2 - (mn (mn t143 t152) bt153.2)))))) (wrap64 (-(wrap64 ((shl .i64 t142 (wrap64 (t143 - (mn (mn t143 t152) bt153.2)))) - (shl .i64 bt153.1 (wrap64 (bt153.2 - (mn (mn t143 t152) bt153.2))))))))) then (if (Int.tmod (Go.bits .and .u16 t145 32767) 2) = 1 then (some false) else (laws_FnHalfNearest.l0 k2 t142 t143 (Go.bits .and .u16 t145 32767) y147 (y147.length : Int) (wrap64 (x45_2 + 1)))) else (laws_FnHalfNearest.l0 k2 t142 t143 (Go.bits .and .u16 t145 32767) y147 (y147.length : Int) (wrap64 (x45_2 + 1))))) else (none)) else (none)) else (none))) = some r := H
                      have A18 := Aside0.mk A180
                      clear A180
                      replace H := Option.bind_eq_some_iff.mp H
                      obtain ⟨⟨t153, t154⟩, A190, H⟩ := H
                      replace H : (if 0 ≤ (wrap64 (t143 - (mn (mn t143 t152) t154))) then (if 0 ≤ (wrap64 (t152 - (mn (mn t143 t152) t154))) then (if 0 ≤ (wrap64 (t154 - (mn (mn t143 t152) t154))) then (if (mx (wrap64 ((shl .i64 t142 (wrap64 (t143 - (mn (mn t143 t152) t154)))) - (shl .i64 t151 (wrap64 (t152 - (mn (mn t143 t152) t154)))))) (wrap64 (-(wrap64 ((shl .i64 t142 (wrap64 (t143 - (mn (mn t143 t152) t154)))) - (shl .i64 t151 (wrap64 (t152 - (mn (mn t143 t152) t154))))))))) > (mx (wrap64 ((shl .i64 t142 (wrap64 (t143 - (mn (mn t143 t152) t154)))) - (shl .i64 t153 (wrap64 (t154 - (mn (mn t143 t152) t154)))))) (wrap64 (-(wrap64 ((shl .i64 t142 (wrap64 (t143 - (mn (mn t143 t152) t154)))) - (shl .i64 t153 (wrap64 (t154 - (mn (mn t143 t152) t154))))))))) then (some false) else (if (mx (wrap64 ((shl .i64 t142 (wrap64 (t143 - (mn (mn t143 t152) t154)))) - (shl .i64 t151 (wrap64 (t152 - (mn (mn t143 t152) t154)))))) (wrap64 (-(wrap64 ((shl .i64 t142 (wrap64 (t143 - (mn (mn t143 t152) t154)))) - (shl .i64 t151 (wrap64 (t152 - (mn (mn t143 t152) t154))))))))) = (mx (wrap64 ((shl .i64 t142 (wrap64 (t143 - (mn (mn t143 t152) t154)))) - (shl .i64 t153 (wrap64 (t154 - (mn (mn t143 t152) t154)))))) (wrap64 (-(wrap64 ((shl .i64 t142 (wrap64 (t143 - (mn (mn t143 t152) t154)))) - (shl .i64 t153 (wrap64 (t154 - (mn (mn t143 t152) t154))))))))) then (if (Int.tmod (Go.bits .and .u16 t145 32767) 2) = 1 then (some false) else (laws_FnHalfNearest.l0 k2 t142 t143 (Go.bits .and .u16 t145 32767) y147 (y147.length : Int) (wrap64 (x45_2 + 1)))) else (laws_FnHalfNearest.l0 k2 t142 t143 (Go.bits .and .u16 t145 32767) y147 (y147.length : Int) (wrap64 (x45_2 + 1))))) else (none)) else (none)) else (none)) = some r := H
                      have A19 := Aside0.mk A190
                      clear A190
                      obtain ⟨ji20, hji20⟩ : ∃ j_ : Int, (mn t143 t152) = j_ := ⟨_, rfl⟩
                      replace H : (if 0 ≤ (wrap64 (t143 - (mn (ji20) t154))) then (if 0 ≤ (wrap64 (t152 - (mn (ji20) t154))) then (if 0 ≤ (wrap64 (t154 - (mn (ji20) t154))) then (if (mx (wrap64 ((shl .i64 t142 (wrap64 (t143 - (mn (ji20) t154)))) - (shl .i64 t151 (wrap64 (t152 - (mn (ji20) t154)))))) (wrap64 (-(wrap64 ((shl .i64 t142 (wrap64 (t143 - (mn (ji20) t154)))) - (shl .i64 t151 (wrap64 (t152 - (mn (ji20) t154))))))))) > (mx (wrap64 ((shl .i64 t142 (wrap64 (t143 - (mn (ji20) t154)))) - (shl .i64 t153 (wrap64 (t154 - (mn (ji20) t154)))))) (wrap64 (-(wrap64 ((shl .i64 t142 (wrap64 (t143 - (mn (ji20) t154)))) - (shl .i64 t153 (wrap64 (t154 - (mn (ji20) t154))))))))) then (some false) else (if (mx (wrap64 ((shl .i64 t142 (wrap64 (t143 - (mn (ji20) t154)))) - (shl .i64 t151 (wrap64 (t152 - (mn (ji20) t154)))))) (wrap64 (-(wrap64 ((shl .i64 t142 (wrap64 (t143 - (mn (ji20) t154)))) - (shl .i64 t151 (wrap64 (t152 - (mn (ji20) t154))))))))) = (mx (wrap64 ((shl .i64 t142 (wrap64 (t143 - (mn (ji20) t154)))) - (shl .i64 t153 (wrap64 (t154 - (mn (ji20) t154)))))) (wrap64 (-(wrap64 ((shl .i64 t142 (wrap64 (t143 - (mn (ji20) t154)))) - (shl .i64 t153 (wrap64 (t154 - (mn (ji20) t154))))))))) then (if (Int.tmod (Go.bits .and .u16 t145 32767) 2) = 1 then (some false) else (laws_FnHalfNearest.l0 k2 t142 t143 (Go.bits .and .u16 t145 32767) y147 (y147.length : Int) (wrap64 (x45_2 + 1)))) else (laws_FnHalfNearest.l0 k2 t142 t143 (Go.bits .and .u16 t145 32767) y147 (y147.length : Int) (wrap64 (x45_2 + 1))))) else (none)) else (none)) else (none)) = some r := by first | (rw [hji20] at H; exact H) | (simp only [hji20] at H ⊢; exact H)
                      (try rw [hji20] at A18)
                      (try rw [hji20] at A19)
                      have hji20_ : (if t152 < t143 then t152 else t143) = ji20 := hji20
                      obtain ⟨ji21, hji21⟩ : ∃ j_ : Int, (mn (ji20) t154) = j_ := ⟨_, rfl⟩
                      replace H : (if 0 ≤ (wrap64 (t143 - (ji21))) then (if 0 ≤ (wrap64 (t152 - (ji21))) then (if 0 ≤ (wrap64 (t154 - (ji21))) then (if (mx (wrap64 ((shl .i64 t142 (wrap64 (t143 - (ji21)))) - (shl .i64 t151 (wrap64 (t152 - (ji21)))))) (wrap64 (-(wrap64 ((shl .i64 t142 (wrap64 (t143 - (ji21)))) - (shl .i64 t151 (wrap64 (t152 - (ji21))))))))) > (mx (wrap64 ((shl .i64 t142 (wrap64 (t143 - (ji21)))) - (shl .i64 t153 (wrap64 (t154 - (ji21)))))) (wrap64 (-(wrap64 ((shl .i64 t142 (wrap64 (t143 - (ji21)))) - (shl .i64 t153 (wrap64 (t154 - (ji21))))))))) then (some false) else (if (mx (wrap64 ((shl .i64 t142 (wrap64 (t143 - (ji21)))) - (shl .i64 t151 (wrap64 (t152 - (ji21)))))) (wrap64 (-(wrap64 ((shl .i64 t142 (wrap64 (t143 - (ji21)))) - (shl .i64 t151 (wrap64 (t152 - (ji21))))))))) = (mx (wrap64 ((shl .i64 t142 (wrap64 (t143 - (ji21)))) - (shl .i64 t153 (wrap64 (t154 - (ji21)))))) (wrap64 (-(wrap64 ((shl .i64 t142 (wrap64 (t143 - (ji21)))) - (shl .i64 t153 (wrap64 (t154 - (ji21))))))))) then (if (Int.tmod (Go.bits .and .u16 t145 32767) 2) = 1 then (some false) else (laws_FnHalfNearest.l0 k2 t142 t143 (Go.bits .and .u16 t145 32767) y147 (y147.length : Int) (wrap64 (x45_2 + 1)))) else (laws_FnHalfNearest.l0 k2 t142 t143 (Go.bits .and .u16 t145 32767) y147 (y147.length : Int) (wrap64 (x45_2 + 1))))) else (none)) else (none)) else (none)) = some r := by first | (rw [hji21] at H; exact H) | (simp only [hji21] at H ⊢; exact H)
                      (try rw [hji21] at A18)
                      (try rw [hji21] at A19)
                      have hji21_ : (if t154 < (ji20) then t154 else (ji20)) = ji21 := hji21
                      obtain ⟨ji22, hji22⟩ : ∃ j_ : Int, (wrap64 (t143 - (ji21))) = j_ := ⟨_, rfl⟩
                      replace H : (if 0 ≤ (ji22) then (if 0 ≤ (wrap64 (t152 - (ji21))) then (if 0 ≤ (wrap64 (t154 - (ji21))) then (if (mx (wrap64 ((shl .i64 t142 (ji22)) - (shl .i64 t151 (wrap64 (t152 - (ji21)))))) (wrap64 (-(wrap64 ((shl .i64 t142 (ji22)) - (shl .i64 t151 (wrap64 (t152 - (ji21))))))))) > (mx (wrap64 ((shl .i64 t142 (ji22)) - (shl .i64 t153 (wrap64 (t154 - (ji21)))))) (wrap64 (-(wrap64 ((shl .i64 t142 (ji22)) - (shl .i64 t153 (wrap64 (t154 - (ji21))))))))) then (some false) else (if (mx (wrap64 ((shl .i64 t142 (ji22)) - (shl .i64 t151 (wrap64 (t152 - (ji21)))))) (wrap64 (-(wrap64 ((shl .i64 t142 (ji22)) - (shl .i64 t151 (wrap64 (t152 - (ji21))))))))) = (mx (wrap64 ((shl .i64 t142 (ji22)) - (shl .i64 t153 (wrap64 (t154 - (ji21)))))) (wrap64 (-(wrap64 ((shl .i64 t142 (ji22)) - (shl .i64 t153 (wrap64 (t154 - (ji21))))))))) then (if (Int.tmod (Go.bits .and .u16 t145 32767) 2) = 1 then (some false) else (laws_FnHalfNearest.l0 k2 t142 t143 (Go.bits .and .u16 t145 32767) y147 (y147.length : Int) (wrap64 (x45_2 + 1)))) else (laws_FnHalfNearest.l0 k2 t142 t143 (Go.bits .and .u16 t145 32767) y147 (y147.length : Int) (wrap64 (x45_2 + 1))))) else (none)) else (none)) else (none)) = some r := by first | (rw [hji22] at H; exact H) | (simp only [hji22] at H ⊢; exact H)
                      (try rw [hji22] at A18)
                      (try rw [hji22] at A19)
                      have hji22w : (IntKind.i64.wrap (t143 - (ji21))) = ji22 := (i64_w _).trans hji22
                      by_cases c23 : 0 ≤ (ji22)
                      · rw [if_pos c23] at H
                        have c23b0 := eq_true c23
                        have c23b1 : decide (0 ≤ (ji22)) = true := decide_eq_true c23
                        clear c23
                        obtain ⟨ji24, hji24⟩ : ∃ j_ : Int, (shl .i64 t142 (ji22)) = j_ := ⟨_, rfl⟩
                        replace H : (if 0 ≤ (wrap64 (t152 - (ji21))) then (if 0 ≤ (wrap64 (t154 - (ji21))) then (if (mx (wrap64 ((ji24) - (shl .i64 t151 (wrap64 (t152 - (ji21)))))) (wrap64 (-(wrap64 ((ji24) - (shl .i64 t151 (wrap64 (t152 - (ji21))))))))) > (mx (wrap64 ((ji24) - (shl .i64 t153 (wrap64 (t154 - (ji21)))))) (wrap64 (-(wrap64 ((ji24) - (shl .i64 t153 (wrap64 (t154 - (ji21))))))))) then (some false) else (if (mx (wrap64 ((ji24) - (shl .i64 t151 (wrap64 (t152 - (ji21)))))) (wrap64 (-(wrap64 ((ji24) - (shl .i64 t151 (wrap64 (t152 - (ji21))))))))) = (mx (wrap64 ((ji24) - (shl .i64 t153 (wrap64 (t154 - (ji21)))))) (wrap64 (-(wrap64 ((ji24) - (shl .i64 t153 (wrap64 (t154 - (ji21))))))))) then (if (Int.tmod (Go.bits .and .u16 t145 32767) 2) = 1 then (some false) else (laws_FnHalfNearest.l0 k2 t142 t143 (Go.bits .and .u16 t145 32767) y147 (y147.length : Int) (wrap64 (x45_2 + 1)))) else (laws_FnHalfNearest.l0 k2 t142 t143 (Go.bits .and .u16 t145 32767) y147 (y147.length : Int) (wrap64 (x45_2 + 1))))) else (none)) else (none)) = some r := by first | (rw [hji24] at H; exact H) | (simp only [hji24] at H ⊢; exact H)
                        (try rw [hji24] at A18)
                        (try rw [hji24] at A19)
                        have hji24_ : (IntKind.i64.wrap (t142 * 2 ^ min (ji22).toNat 64)) = ji24 := hji24
                        have hji24z : (ji22) ≤ 64 → (IntKind.i64.wrap (t142 * 2 ^ (ji22).toNat)) = ji24 := shl_small hji24
                        have hji24y : (wrap64 (t142 * 2 ^ min (ji22).toNat 64)) = ji24 := (i64_w _).symm.trans hji24_
                        have hji24x : (ji22) ≤ 64 → (wrap64 (t142 * 2 ^ (ji22).toNat)) = ji24 := fun h_ => (i64_w _).symm.trans (hji24z h_)
                        obtain ⟨ji25, hji25⟩ : ∃ j_ : Int, (wrap64 (t152 - (ji21))) = j_ := ⟨_, rfl⟩
                        replace H : (if 0 ≤ (ji25) then (if 0 ≤ (wrap64 (t154 - (ji21))) then (if (mx (wrap64 ((ji24) - (shl .i64 t151 (ji25)))) (wrap64 (-(wrap64 ((ji24) - (shl .i64 t151 (ji25))))))) > (mx (wrap64 ((ji24) - (shl .i64 t153 (wrap64 (t154 - (ji21)))))) (wrap64 (-(wrap64 ((ji24) - (shl .i64 t153 (wrap64 (t154 - (ji21))))))))) then (some false) else (if (mx (wrap64 ((ji24) - (shl .i64 t151 (ji25)))) (wrap64 (-(wrap64 ((ji24) - (shl .i64 t151 (ji25))))))) = (mx (wrap64 ((ji24) - (shl .i64 t153 (wrap64 (t154 - (ji21)))))) (wrap64 (-(wrap64 ((ji24) - (shl .i64 t153 (wrap64 (t154 - (ji21))))))))) then (if (Int.tmod (Go.bits .and .u16 t145 32767) 2) = 1 then (some false) else (laws_FnHalfNearest.l0 k2 t142 t143 (Go.bits .and .u16 t145 32767) y147 (y147.length : Int) (wrap64 (x45_2 + 1)))) else (laws_FnHalfNearest.l0 k2 t142 t143 (Go.bits .and .u16 t145 32767) y147 (y147.length : Int) (wrap64 (x45_2 + 1))))) else (none)) else (none)) = some r := by first | (rw [hji25] at H; exact H) | (simp only [hji25] at H ⊢; exact H)
                        (try rw [hji25] at A18)
                        (try rw [hji25] at A19)
                        have hji25w : (IntKind.i64.wrap (t152 - (ji21))) = ji25 := (i64_w _).trans hji25
                        by_cases c26 : 0 ≤ (ji25)
                        · rw [if_pos c26] at H
                          have c26b0 := eq_true c26
                          have c26b1 : decide (0 ≤ (ji25)) = true := decide_eq_true c26
                          clear c26
                          obtain ⟨ji27, hji27⟩ : ∃ j_ : Int, (shl .i64 t151 (ji25)) = j_ := ⟨_, rfl⟩
                          replace H : (if 0 ≤ (wrap64 (t154 - (ji21))) then (if (mx (wrap64 ((ji24) - (ji27))) (wrap64 (-(wrap64 ((ji24) - (ji27)))))) > (mx (wrap64 ((ji24) - (shl .i64 t153 (wrap64 (t154 - (ji21)))))) (wrap64 (-(wrap64 ((ji24) - (shl .i64 t153 (wrap64 (t154 - (ji21))))))))) then (some false) else (if (mx (wrap64 ((ji24) - (ji27))) (wrap64 (-(wrap64 ((ji24) - (ji27)))))) = (mx (wrap64 ((ji24) - (shl .i64 t153 (wrap64 (t154 - (ji21)))))) (wrap64 (-(wrap64 ((ji24) - (shl .i64 t153 (wrap64 (t154 - (ji21))))))))) then (if (Int.tmod (Go.bits .and .u16 t145 32767) 2) = 1 then (some false) else (laws_FnHalfNearest.l0 k2 t142 t143 (Go.bits .and .u16 t145 32767) y147 (y147.length : Int) (wrap64 (x45_2 + 1)))) else (laws_FnHalfNearest.l0 k2 t142 t143 (Go.bits .and .u16 t145 32767) y147 (y147.length : Int) (wrap64 (x45_2 + 1))))) else (none)) = some r := by first | (rw [hji27] at H; exact H) | (simp only [hji27] at H ⊢; exact H)
                          (try rw [hji27] at A18)
                          (try rw [hji27] at A19)
                          have hji27_ : (IntKind.i64.wrap (t151 * 2 ^ min (ji25).toNat 64)) = ji27 := hji27
                          have hji27z : (ji25) ≤ 64 → (IntKind.i64.wrap (t151 * 2 ^ (ji25).toNat)) = ji27 := shl_small hji27
                          have hji27y : (wrap64 (t151 * 2 ^ min (ji25).toNat 64)) = ji27 := (i64_w _).symm.trans hji27_
                          have hji27x : (ji25) ≤ 64 → (wrap64 (t151 * 2 ^ (ji25).toNat)) = ji27 := fun h_ => (i64_w _).symm.trans (hji27z h_)
                          have c28b0 := eq_true (of_decide_eq_true (by first | (with_reducible assumption) | assumption) : 0 ≤ (ji22))
                          obtain ⟨ji30, hji30⟩ : ∃ j_ : Int, (wrap64 (t154 - (ji21))) = j_ := ⟨_, rfl⟩
                          replace H : (if 0 ≤ (ji30) then (if (mx (wrap64 ((ji24) - (ji27))) (wrap64 (-(wrap64 ((ji24) - (ji27)))))) > (mx (wrap64 ((ji24) - (shl .i64 t153 (ji30)))) (wrap64 (-(wrap64 ((ji24) - (shl .i64 t153 (ji30))))))) then (some false) else (if (mx (wrap64 ((ji24) - (ji27))) (wrap64 (-(wrap64 ((ji24) - (ji27)))))) = (mx (wrap64 ((ji24) - (shl .i64 t153 (ji30)))) (wrap64 (-(wrap64 ((ji24) - (shl .i64 t153 (ji30))))))) then (if (Int.tmod (Go.bits .and .u16 t145 32767) 2) = 1 then (some false) else (laws_FnHalfNearest.l0 k2 t142 t143 (Go.bits .and .u16 t145 32767) y147 (y147.length : Int) (wrap64 (x45_2 + 1)))) else (laws_FnHalfNearest.l0 k2 t142 t143 (Go.bits .and .u16 t145 32767) y147 (y147.length : Int) (wrap64 (x45_2 + 1))))) else (none)) = some r := by first | (rw [hji30] at H; exact H) | (simp only [hji30] at H ⊢; exact H)
                          (try rw [hji30] at A18)
                          (try rw [hji30] at A19)
                          have hji30w : (IntKind.i64.wrap (t154 - (ji21))) = ji30 := (i64_w _).trans hji30
                          by_cases c31 : 0 ≤ (ji30)
                          · rw [if_pos c31] at H
                            have c31b0 := eq_true c31
                            have c31b1 : decide (0 ≤ (ji30)) = true := decide_eq_true c31
                            clear c31
                            obtain ⟨ji32, hji32⟩ : ∃ j_ : Int, (shl .i64 t153 (ji30)) = j_ := ⟨_, rfl⟩
                            replace H : (if (mx (wrap64 ((ji24) - (ji27))) (wrap64 (-(wrap64 ((ji24) - (ji27)))))) > (mx (wrap64 ((ji24) - (ji32))) (wrap64 (-(wrap64 ((ji24) - (ji32)))))) then (some false) else (if (mx (wrap64 ((ji24) - (ji27))) (wrap64 (-(wrap64 ((ji24) - (ji27)))))) = (mx (wrap64 ((ji24) - (ji32))) (wrap64 (-(wrap64 ((ji24) - (ji32)))))) then (if (Int.tmod (Go.bits .and .u16 t145 32767) 2) = 1 then (some false) else (laws_FnHalfNearest.l0 k2 t142 t143 (Go.bits .and .u16 t145 32767) y147 (y147.length : Int) (wrap64 (x45_2 + 1)))) else (laws_FnHalfNearest.l0 k2 t142 t143 (Go.bits .and .u16 t145 32767) y147 (y147.length : Int) (wrap64 (x45_2 + 1))))) = some r := by first | (rw [hji32] at H; exact H) | (simp only [hji32] at H ⊢; exact H)
                            (try rw [hji32] at A18)
                            (try rw [hji32] at A19)
                            have hji32_ : (IntKind.i64.wrap (t153 * 2 ^ min (ji30).toNat 64)) = ji32 := hji32
                            have hji32z : (ji30) ≤ 64 → (IntKind.i64.wrap (t153 * 2 ^ (ji30).toNat)) = ji32 := shl_small hji32
                            have hji32y : (wrap64 (t153 * 2 ^ min (ji30).toNat 64)) = ji32 := (i64_w _).symm.trans hji32_
                            have hji32x : (ji30) ≤ 64 → (wrap64 (t153 * 2 ^ (ji30).toNat)) = ji32 := fun h_ => (i64_w _).symm.trans (hji32z h_)
                            obtain ⟨ji33, hji33⟩ : ∃ j_ : Int, (mx (wrap64 ((ji24) - (ji27))) (wrap64 (-(wrap64 ((ji24) - (ji27)))))) = j_ := ⟨_, rfl⟩
                            replace H : (if (ji33) > (mx (wrap64 ((ji24) - (ji32))) (wrap64 (-(wrap64 ((ji24) - (ji32)))))) then (some false) else (if (ji33) = (mx (wrap64 ((ji24) - (ji32))) (wrap64 (-(wrap64 ((ji24) - (ji32)))))) then (if (Int.tmod (Go.bits .and .u16 t145 32767) 2) = 1 then (some false) else (laws_FnHalfNearest.l0 k2 t142 t143 (Go.bits .and .u16 t145 32767) y147 (y147.length : Int) (wrap64 (x45_2 + 1)))) else (laws_FnHalfNearest.l0 k2 t142 t143 (Go.bits .and .u16 t145 32767) y147 (y147.length : Int) (wrap64 (x45_2 + 1))))) = some r := by first | (rw [hji33] at H; exact H) | (simp only [hji33] at H ⊢; exact H)
                            (try rw [hji33] at A18)
                            (try rw [hji33] at A19)
                            have hji33_ : (if (wrap64 ((ji24) - (ji27))) < (wrap64 (-(wrap64 ((ji24) - (ji27))))) then (wrap64 (-(wrap64 ((ji24) - (ji27))))) else (wrap64 ((ji24) - (ji27)))) = ji33 := hji33
                            obtain ⟨ji34, hji34⟩ : ∃ j_ : Int, (mx (wrap64 ((ji24) - (ji32))) (wrap64 (-(wrap64 ((ji24) - (ji32)))))) = j_ := ⟨_, rfl⟩
                            replace H : (if (ji33) > (ji34) then (some false) else (if (ji33) = (ji34) then (if (Int.tmod (Go.bits .and .u16 t145 32767) 2) = 1 then (some false) else (laws_FnHalfNearest.l0 k2 t142 t143 (Go.bits .and .u16 t145 32767) y147 (y147.length : Int) (wrap64 (x45_2 + 1)))) else (laws_FnHalfNearest.l0 k2 t142 t143 (Go.bits .and .u16 t145 32767) y147 (y147.length : Int) (wrap64 (x45_2 + 1))))) = some r := by first | (rw [hji34] at H; exact H) | (simp only [hji34] at H ⊢; exact H)
                            (try rw [hji34] at A18)
                            (try rw [hji34] at A19)
                            have hji34_ : (if (wrap64 ((ji24) - (ji32))) < (wrap64 (-(wrap64 ((ji24) - (ji32))))) then (wrap64 (-(wrap64 ((ji24) - (ji32))))) else (wrap64 ((ji24) - (ji32)))) = ji34 := hji34
                            by_cases c35 : (ji33) > (ji34)
                            · rw [if_pos c35] at H
                              have c35b0 : decide ((ji34) < (ji33)) = true := decide_eq_true c35
                              clear c35
                              obtain rfl := Option.some.inj H
                              have p150 : 0 ≤ (x45_2 : Int) := of_decide_eq_true (by first | (with_reducible assumption) | assumption)
                              have q150 : x45_2 < (y147.length : Int) := of_decide_eq_true (by first | (with_reducible assumption) | assumption)
                              obtain ⟨ad150, e150, hx150_0⟩ := Kd.at_int (Kd.R_reads' HO_43.out).2.2 x45_2 p150 q150
                              cases e150
                              replace p150 := eq_true p150
                              replace q150 := eq_true q150
                              go_wp2_with (first | (go_at_call 20; (with_reducible refine (spec_HalfValue.calls (Go.bits .and .u16 t145 32767) t151 t152 _ A18.out).mono ?_); rintro e w' ⟨rfl, ⟨nd, rfl⟩⟩; (try first | exact ⟨rfl, _, World.drewN_drewN _ _ _⟩ | exact ⟨rfl, _, Eq.trans (World.drewN_drewN _ _ _) (congrArg (World.drewN _) (Nat.add_assoc _ _ _))⟩)) | (go_at_call 20; (with_reducible refine (spec_HalfValue.calls (rd y147 x45_2) t153 t154 _ A19.out).mono ?_); rintro e w' ⟨rfl, ⟨nd, rfl⟩⟩; (try first | exact ⟨rfl, _, World.drewN_drewN _ _ _⟩ | exact ⟨rfl, _, Eq.trans (World.drewN_drewN _ _ _) (congrArg (World.drewN _) (Nat.add_assoc _ _ _))⟩)))
                              repeat (go_quiet (first | (go_at_call 20; (with_reducible refine (spec_HalfValue.calls (Go.bits .and .u16 t145 32767) t151 t152 _ A18.out).mono ?_); rintro e w' ⟨rfl, ⟨nd, rfl⟩⟩; (try first | exact ⟨rfl, _, World.drewN_drewN _ _ _⟩ | exact ⟨rfl, _, Eq.trans (World.drewN_drewN _ _ _) (congrArg (World.drewN _) (Nat.add_assoc _ _ _))⟩)) | (go_at_call 20; (with_reducible refine (spec_HalfValue.calls (rd y147 x45_2) t153 t154 _ A19.out).mono ?_); rintro e w' ⟨rfl, ⟨nd, rfl⟩⟩; (try first | exact ⟨rfl, _, World.drewN_drewN _ _ _⟩ | exact ⟨rfl, _, Eq.trans (World.drewN_drewN _ _ _) (congrArg (World.drewN _) (Nat.add_assoc _ _ _))⟩))); try go_wp2_with (first | (go_at_call 20; (with_reducible refine (spec_HalfValue.calls (Go.bits .and .u16 t145 32767) t151 t152 _ A18.out).mono ?_); rintro e w' ⟨rfl, ⟨nd, rfl⟩⟩; (try first | exact ⟨rfl, _, World.drewN_drewN _ _ _⟩ | exact ⟨rfl, _, Eq.trans (World.drewN_drewN _ _ _) (congrArg (World.drewN _) (Nat.add_assoc _ _ _))⟩)) | (go_at_call 20; (with_reducible refine (spec_HalfValue.calls (rd y147 x45_2) t153 t154 _ A19.out).mono ?_); rintro e w' ⟨rfl, ⟨nd, rfl⟩⟩; (try first | exact ⟨rfl, _, World.drewN_drewN _ _ _⟩ | exact ⟨rfl, _, Eq.trans (World.drewN_drewN _ _ _) (congrArg (World.drewN _) (Nat.add_assoc _ _ _))⟩))))
                              go_ret
                              exact ⟨by first | rfl | (simp [errW_none, errW_some] <;> rfl) | (simp only [← hji20, ← hji21, ← hji22, ← hji24, ← hji25, ← hji27, ← hji30, ← hji32, ← hji33, ← hji34]; first | rfl | (simp [errW_none, errW_some] <;> rfl)) | (simp [*, errW_none, errW_some] <;> rfl), by repeat (first | (with_reducible first | exact HB.out | apply below_alloc | apply pw_below_drewN | apply below_drew1) | exact HB.out)⟩
                            · rw [if_neg c35] at H
                              have c35b0 : decide ((ji34) < (ji33)) = false := decide_eq_false c35
                              clear c35
                              by_cases c38 : (ji33) = (ji34)
                              · rw [if_pos c38] at H
                                have c38b0 : ((ji33) == (ji34)) = true := beq_iff_eq.mpr c38
                                have c38b1 : ((ji33) != (ji34)) = false := bne_eq_false_iff_eq.mpr c38
                                clear c38
                                by_cases c39 : (Int.tmod (Go.bits .and .u16 t145 32767) 2) = 1
                                · rw [if_pos c39] at H
                                  have c39b0 : ((Int.tmod (Go.bits .and .u16 t145 32767) 2) == 1) = true := beq_iff_eq.mpr c39
                                  have c39b1 : ((Int.tmod (Go.bits .and .u16 t145 32767) 2) != 1) = false := bne_eq_false_iff_eq.mpr c39
                                  clear c39
                                  obtain rfl := Option.some.inj H
                                  have p150 : 0 ≤ (x45_2 : Int) := of_decide_eq_true (by first | (with_reducible assumption) | assumption)
                                  have q150 : x45_2 < (y147.length : Int) := of_decide_eq_true (by first | (with_reducible assumption) | assumption)
                                  obtain ⟨ad150, e150, hx150_0⟩ := Kd.at_int (Kd.R_reads' HO_43.out).2.2 x45_2 p150 q150
                                  cases e150
                                  replace p150 := eq_true p150
                                  replace q150 := eq_true q150
                                  go_wp2_with (first | (go_at_call 20; (with_reducible refine (spec_HalfValue.calls (Go.bits .and .u16 t145 32767) t151 t152 _ A18.out).mono ?_); rintro e w' ⟨rfl, ⟨nd, rfl⟩⟩; (try first | exact ⟨rfl, _, World.drewN_drewN _ _ _⟩ | exact ⟨rfl, _, Eq.trans (World.drewN_drewN _ _ _) (congrArg (World.drewN _) (Nat.add_assoc _ _ _))⟩)) | (go_at_call 20; (with_reducible refine (spec_HalfValue.calls (rd y147 x45_2) t153 t154 _ A19.out).mono ?_); rintro e w' ⟨rfl, ⟨nd, rfl⟩⟩; (try first | exact ⟨rfl, _, World.drewN_drewN _ _ _⟩ | exact ⟨rfl, _, Eq.trans (World.drewN_drewN _ _ _) (congrArg (World.drewN _) (Nat.add_assoc _ _ _))⟩)))
                                  repeat (go_quiet (first | (go_at_call 20; (with_reducible refine (spec_HalfValue.calls (Go.bits .and .u16 t145 32767) t151 t152 _ A18.out).mono ?_); rintro e w' ⟨rfl, ⟨nd, rfl⟩⟩; (try first | exact ⟨rfl, _, World.drewN_drewN _ _ _⟩ | exact ⟨rfl, _, Eq.trans (World.drewN_drewN _ _ _) (congrArg (World.drewN _) (Nat.add_assoc _ _ _))⟩)) | (go_at_call 20; (with_reducible refine (spec_HalfValue.calls (rd y147 x45_2) t153 t154 _ A19.out).mono ?_); rintro e w' ⟨rfl, ⟨nd, rfl⟩⟩; (try first | exact ⟨rfl, _, World.drewN_drewN _ _ _⟩ | exact ⟨rfl, _, Eq.trans (World.drewN_drewN _ _ _) (congrArg (World.drewN _) (Nat.add_assoc _ _ _))⟩))); try go_wp2_with (first | (go_at_call 20; (with_reducible refine (spec_HalfValue.calls (Go.bits .and .u16 t145 32767) t151 t152 _ A18.out).mono ?_); rintro e w' ⟨rfl, ⟨nd, rfl⟩⟩; (try first | exact ⟨rfl, _, World.drewN_drewN _ _ _⟩ | exact ⟨rfl, _, Eq.trans (World.drewN_drewN _ _ _) (congrArg (World.drewN _) (Nat.add_assoc _ _ _))⟩)) | (go_at_call 20; (with_reducible refine (spec_HalfValue.calls (rd y147 x45_2) t153 t154 _ A19.out).mono ?_); rintro e w' ⟨rfl, ⟨nd, rfl⟩⟩; (try first | exact ⟨rfl, _, World.drewN_drewN _ _ _⟩ | exact ⟨rfl, _, Eq.trans (World.drewN_drewN _ _ _) (congrArg (World.drewN _) (Nat.add_assoc _ _ _))⟩))))
                                  go_ret
                                  exact ⟨by first | rfl | (simp [errW_none, errW_some] <;> rfl) | (simp only [← hji20, ← hji21, ← hji22, ← hji24, ← hji25, ← hji27, ← hji30, ← hji32, ← hji33, ← hji34]; first | rfl | (simp [errW_none, errW_some] <;> rfl)) | (simp [*, errW_none, errW_some] <;> rfl), by repeat (first | (with_reducible first | exact HB.out | apply below_alloc | apply pw_below_drewN | apply below_drew1) | exact HB.out)⟩
                                · rw [if_neg c39] at H
                                  have c39b0 : ((Int.tmod (Go.bits .and .u16 t145 32767) 2) == 1) = false := beq_eq_false_iff_ne.mpr c39
                                  have c39b1 : ((Int.tmod (Go.bits .and .u16 t145 32767) 2) != 1) = true := bne_iff_ne.mpr c39
                                  have H' := Aside0.mk H
                                  clear H
                                  have p150 : 0 ≤ (x45_2 : Int) := of_decide_eq_true (by first | (with_reducible assumption) | assumption)
                                  have q150 : x45_2 < (y147.length : Int) := of_decide_eq_true (by first | (with_reducible assumption) | assumption)
                                  obtain ⟨ad150, e150, hx150_0⟩ := Kd.at_int (Kd.R_reads' HO_43.out).2.2 x45_2 p150 q150
                                  cases e150
                                  replace p150 := eq_true p150
                                  replace q150 := eq_true q150
                                  go_wp2_with (first | (go_at_call 20; (with_reducible refine (spec_HalfValue.calls (Go.bits .and .u16 t145 32767) t151 t152 _ A18.out).mono ?_); rintro e w' ⟨rfl, ⟨nd, rfl⟩⟩; (try first | exact ⟨rfl, _, World.drewN_drewN _ _ _⟩ | exact ⟨rfl, _, Eq.trans (World.drewN_drewN _ _ _) (congrArg (World.drewN _) (Nat.add_assoc _ _ _))⟩)) | (go_at_call 20; (with_reducible refine (spec_HalfValue.calls (rd y147 x45_2) t153 t154 _ A19.out).mono ?_); rintro e w' ⟨rfl, ⟨nd, rfl⟩⟩; (try first | exact ⟨rfl, _, World.drewN_drewN _ _ _⟩ | exact ⟨rfl, _, Eq.trans (World.drewN_drewN _ _ _) (congrArg (World.drewN _) (Nat.add_assoc _ _ _))⟩)))
                                  repeat (go_quiet (first | (go_at_call 20; (with_reducible refine (spec_HalfValue.calls (Go.bits .and .u16 t145 32767) t151 t152 _ A18.out).mono ?_); rintro e w' ⟨rfl, ⟨nd, rfl⟩⟩; (try first | exact ⟨rfl, _, World.drewN_drewN _ _ _⟩ | exact ⟨rfl, _, Eq.trans (World.drewN_drewN _ _ _) (congrArg (World.drewN _) (Nat.add_assoc _ _ _))⟩)) | (go_at_call 20; (with_reducible refine (spec_HalfValue.calls (rd y147 x45_2) t153 t154 _ A19.out).mono ?_); rintro e w' ⟨rfl, ⟨nd, rfl⟩⟩; (try first | exact ⟨rfl, _, World.drewN_drewN _ _ _⟩ | exact ⟨rfl, _, Eq.trans (World.drewN_drewN _ _ _) (congrArg (World.drewN _) (Nat.add_assoc _ _ _))⟩))); try go_wp2_with (first | (go_at_call 20; (with_reducible refine (spec_HalfValue.calls (Go.bits .and .u16 t145 32767) t151 t152 _ A18.out).mono ?_); rintro e w' ⟨rfl, ⟨nd, rfl⟩⟩; (try first | exact ⟨rfl, _, World.drewN_drewN _ _ _⟩ | exact ⟨rfl, _, Eq.trans (World.drewN_drewN _ _ _) (congrArg (World.drewN _) (Nat.add_assoc _ _ _))⟩)) | (go_at_call 20; (with_reducible refine (spec_HalfValue.calls (rd y147 x45_2) t153 t154 _ A19.out).mono ?_); rintro e w' ⟨rfl, ⟨nd, rfl⟩⟩; (try first | exact ⟨rfl, _, World.drewN_drewN _ _ _⟩ | exact ⟨rfl, _, Eq.trans (World.drewN_drewN _ _ _) (congrArg (World.drewN _) (Nat.add_assoc _ _ _))⟩))))
                                  go_roundg k2
                                  case measure => have := HJ2.out; have := HK2.out; omega
                                  case rel => exact ⟨(wrap64 (x45_2 + 1)), (by first | rfl | (simp; done) | (simp [*]; done)), H', ⟨by have := HJ2.out; have := HK2.out; omega⟩, ⟨by (with_reducible repeat (first | apply Kd.R_alloc | apply Kd.R_drewN | apply Kd.R_drew)); exact HO_43.out⟩, ⟨by repeat (first | (with_reducible first | exact HB.out | apply below_alloc | apply pw_below_drewN | apply below_drew1) | exact HB.out)⟩⟩
                              · rw [if_neg c38] at H
                                have c38b0 : ((ji33) == (ji34)) = false := beq_eq_false_iff_ne.mpr c38
                                have c38b1 : ((ji33) != (ji34)) = true := bne_iff_ne.mpr c38
                                have H' := Aside0.mk H
                                clear H
                                have p150 : 0 ≤ (x45_2 : Int) := of_decide_eq_true (by first | (with_reducible assumption) | assumption)
                                have q150 : x45_2 < (y147.length : Int) := of_decide_eq_true (by first | (with_reducible assumption) | assumption)
                                obtain ⟨ad150, e150, hx150_0⟩ := Kd.at_int (Kd.R_reads' HO_43.out).2.2 x45_2 p150 q150
                                cases e150
                                replace p150 := eq_true p150
                                replace q150 := eq_true q150
                                go_wp2_with (first | (go_at_call 20; (with_reducible refine (spec_HalfValue.calls (Go.bits .and .u16 t145 32767) t151 t152 _ A18.out).mono ?_); rintro e w' ⟨rfl, ⟨nd, rfl⟩⟩; (try first | exact ⟨rfl, _, World.drewN_drewN _ _ _⟩ | exact ⟨rfl, _, Eq.trans (World.drewN_drewN _ _ _) (congrArg (World.drewN _) (Nat.add_assoc _ _ _))⟩)) | (go_at_call 20; (with_reducible refine (spec_HalfValue.calls (rd y147 x45_2) t153 t154 _ A19.out).mono ?_); rintro e w' ⟨rfl, ⟨nd, rfl⟩⟩; (try first | exact ⟨rfl, _, World.drewN_drewN _ _ _⟩ | exact ⟨rfl, _, Eq.trans (World.drewN_drewN _ _ _) (congrArg (World.drewN _) (Nat.add_assoc _ _ _))⟩)))
                                repeat (go_quiet (first | (go_at_call 20; (with_reducible refine (spec_HalfValue.calls (Go.bits .and .u16 t145 32767) t151 t152 _ A18.out).mono ?_); rintro e w' ⟨rfl, ⟨nd, rfl⟩⟩; (try first | exact ⟨rfl, _, World.drewN_drewN _ _ _⟩ | exact ⟨rfl, _, Eq.trans (World.drewN_drewN _ _ _) (congrArg (World.drewN _) (Nat.add_assoc _ _ _))⟩)) | (go_at_call 20; (with_reducible refine (spec_HalfValue.calls (rd y147 x45_2) t153 t154 _ A19.out).mono ?_); rintro e w' ⟨rfl, ⟨nd, rfl⟩⟩; (try first | exact ⟨rfl, _, World.drewN_drewN _ _ _⟩ | exact ⟨rfl, _, Eq.trans (World.drewN_drewN _ _ _) (congrArg (World.drewN _) (Nat.add_assoc _ _ _))⟩))); try go_wp2_with (first | (go_at_call 20; (with_reducible refine (spec_HalfValue.calls (Go.bits .and .u16 t145 32767) t151 t152 _ A18.out).mono ?_); rintro e w' ⟨rfl, ⟨nd, rfl⟩⟩; (try first | exact ⟨rfl, _, World.drewN_drewN _ _ _⟩ | exact ⟨rfl, _, Eq.trans (World.drewN_drewN _ _ _) (congrArg (World.drewN _) (Nat.add_assoc _ _ _))⟩)) | (go_at_call 20; (with_reducible refine (spec_HalfValue.calls (rd y147 x45_2) t153 t154 _ A19.out).mono ?_); rintro e w' ⟨rfl, ⟨nd, rfl⟩⟩; (try first | exact ⟨rfl, _, World.drewN_drewN _ _ _⟩ | exact ⟨rfl, _, Eq.trans (World.drewN_drewN _ _ _) (congrArg (World.drewN _) (Nat.add_assoc _ _ _))⟩))))
                                go_roundg k2
                                case measure => have := HJ2.out; have := HK2.out; omega
                                case rel => exact ⟨(wrap64 (x45_2 + 1)), (by first | rfl | (simp; done) | (simp [*]; done)), H', ⟨by have := HJ2.out; have := HK2.out; omega⟩, ⟨by (with_reducible repeat (first | apply Kd.R_alloc | apply Kd.R_drewN | apply Kd.R_drew)); exact HO_43.out⟩, ⟨by repeat (first | (with_reducible first | exact HB.out | apply below_alloc | apply pw_below_drewN | apply below_drew1) | exact HB.out)⟩⟩
                          · rw [if_neg c31] at H
                            exact absurd H (by simp)
                        · rw [if_neg c26] at H
                          exact absurd H (by simp)
                      · rw [if_neg c23] at H
                        exact absurd H (by simp)
                  · rw [if_neg c16] at H
                    exact absurd H (by simp)
                · rw [if_neg c15] at H
                  exact absurd H (by simp)
              · rw [if_neg c14] at H
                have c14b0 : decide (x45_2 < (y147.length : Int)) = false := decide_eq_false c14
                clear c14
                obtain rfl := Option.some.inj H
                go_wp2
                repeat (go_quiet (fail); try go_wp2)
                go_ret
                exact ⟨by first | rfl | (simp [errW_none, errW_some] <;> rfl) | (simp [*, errW_none, errW_some] <;> rfl), by repeat (first | (with_reducible first | exact HB.out | apply below_alloc | apply pw_below_drewN | apply below_drew1) | exact HB.out)⟩
        · rw [if_neg c10] at H
          have c10b0 : (t146 == 0) = false := beq_eq_false_iff_ne.mpr c10
          have c10b1 : (t146 != 0) = true := bne_iff_ne.mpr c10
          obtain rfl := Option.some.inj H
          go_wp2_with (first | (go_at_call 23; (with_reducible refine (impl_HalfFrom.calls a0 t145 _ A8.out).mono ?_); rintro e w' ⟨rfl, ⟨nd, rfl⟩⟩; (try first | exact ⟨rfl, _, World.drewN_drewN _ _ _⟩ | exact ⟨rfl, _, Eq.trans (World.drewN_drewN _ _ _) (congrArg (World.drewN _) (Nat.add_assoc _ _ _))⟩)) | (go_at_call 17; (with_reducible refine (spec_HalfKind.calls (Go.bits .and .u16 t145 32767) t146 _ A9.out).mono ?_); rintro e w' ⟨rfl, ⟨nd, rfl⟩⟩; (try first | exact ⟨rfl, _, World.drewN_drewN _ _ _⟩ | exact ⟨rfl, _, Eq.trans (World.drewN_drewN _ _ _) (congrArg (World.drewN _) (Nat.add_assoc _ _ _))⟩)))
          repeat (go_quiet (first | (go_at_call 23; (with_reducible refine (impl_HalfFrom.calls a0 t145 _ A8.out).mono ?_); rintro e w' ⟨rfl, ⟨nd, rfl⟩⟩; (try first | exact ⟨rfl, _, World.drewN_drewN _ _ _⟩ | exact ⟨rfl, _, Eq.trans (World.drewN_drewN _ _ _) (congrArg (World.drewN _) (Nat.add_assoc _ _ _))⟩)) | (go_at_call 17; (with_reducible refine (spec_HalfKind.calls (Go.bits .and .u16 t145 32767) t146 _ A9.out).mono ?_); rintro e w' ⟨rfl, ⟨nd, rfl⟩⟩; (try first | exact ⟨rfl, _, World.drewN_drewN _ _ _⟩ | exact ⟨rfl, _, Eq.trans (World.drewN_drewN _ _ _) (congrArg (World.drewN _) (Nat.add_assoc _ _ _))⟩))); try go_wp2_with (first | (go_at_call 23; (with_reducible refine (impl_HalfFrom.calls a0 t145 _ A8.out).mono ?_); rintro e w' ⟨rfl, ⟨nd, rfl⟩⟩; (try first | exact ⟨rfl, _, World.drewN_drewN _ _ _⟩ | exact ⟨rfl, _, Eq.trans (World.drewN_drewN _ _ _) (congrArg (World.drewN _) (Nat.add_assoc _ _ _))⟩)) | (go_at_call 17; (with_reducible refine (spec_HalfKind.calls (Go.bits .and .u16 t145 32767) t146 _ A9.out).mono ?_); rintro e w' ⟨rfl, ⟨nd, rfl⟩⟩; (try first | exact ⟨rfl, _, World.drewN_drewN _ _ _⟩ | exact ⟨rfl, _, Eq.trans (World.drewN_drewN _ _ _) (congrArg (World.drewN _) (Nat.add_assoc _ _ _))⟩))))
          go_ret
          exact ⟨by first | rfl | (simp [errW_none, errW_some] <;> rfl) | (simp [*, errW_none, errW_some] <;> rfl), by repeat (first | (with_reducible first | exact HB.out | apply below_alloc | apply pw_below_drewN | apply below_drew1) | exact HB.out)⟩

/-- THE ONE PURE STATEMENT of laws_FnHalfNearest: yours. -/
def laws_FnHalfNearest.Pure : Prop := ∀ (a0 : Int), (Lit.int .u32 a0).wf = true → ∃ k, laws_FnHalfNearest.f k a0 = some true
theorem laws_FnHalfNearest.walk (P : laws_FnHalfNearest.Pure) (a0 : Int) (w : World) (w0 : (Lit.int .u32 a0).wf = true) :
    Calls Try.prog 7 #[.int .u32 a0] w fun e w' => e = .returned (.bool true) ∧ Below w.heap.size w w' := by
  obtain ⟨k, h⟩ := P a0 w0
  refine (laws_FnHalfNearest.calls k a0 true w h).mono ?_
  rintro e w' ⟨rfl, hd⟩
  exact ⟨rfl, hd⟩


/-! ### laws_halfRank: function 25 -/
def laws_halfRank.f (a0 : Int) (a1 : Int) : Option (Int) := if 0 ≤ a1 then (if (shr .u64 a0 a1) = 1 then (some (wrap64 (-(wrap64 (Go.bits .and .u64 a0 (IntKind.u64.wrap ((shl .u64 1 a1) - 1))))))) else (some (wrap64 (Go.bits .and .u64 a0 (IntKind.u64.wrap ((shl .u64 1 a1) - 1)))))) else (none)
set_option maxHeartbeats 8000000 in
set_option maxRecDepth 100000 in
theorem laws_halfRank.calls (a0 : Int) (a1 : Int) (r : Int) (w : World) (h : laws_halfRank.f a0 a1 = some r) :
    Calls Try.prog 25 #[.int .u64 a0, .int .i64 a1] w fun e w' => e = .returned (.int .i64 r) ∧ Drawn0 w w' := by
  have H : (if 0 ≤ a1 then (if (shr .u64 a0 a1) = 1 then (some (wrap64 (-(wrap64 (Go.bits .and .u64 a0 (IntKind.u64.wrap ((shl .u64 1 a1) - 1))))))) else (some (wrap64 (Go.bits .and .u64 a0 (IntKind.u64.wrap ((shl .u64 1 a1) - 1)))))) else (none)) = some r := h
  clear h
  by_cases c3 : 0 ≤ a1
  · rw [if_pos c3] at H
    have c3b0 := eq_true c3
    have c3b1 : decide (0 ≤ a1) = true := decide_eq_true c3
    clear c3
    obtain ⟨ji4, hji4⟩ : ∃ j_ : Int, (shl .u64 1 a1) = j_ := ⟨_, rfl⟩
    replace H : (if (shr .u64 a0 a1) = 1 then (some (wrap64 (-(wrap64 (Go.bits .and .u64 a0 (IntKind.u64.wrap ((ji4) - 1))))))) else (some (wrap64 (Go.bits .and .u64 a0 (IntKind.u64.wrap ((ji4) - 1)))))) = some r := by first | (rw [hji4] at H; exact H) | (simp only [hji4] at H ⊢; exact H)
    have hji4_ : (IntKind.u64.wrap (1 * 2 ^ min a1.toNat 64)) = ji4 := hji4
    have hji4z : a1 ≤ 64 → (IntKind.u64.wrap (1 * 2 ^ a1.toNat)) = ji4 := shl_small hji4
    have hji4u : (IntKind.u64.wrap (2 ^ min a1.toNat 64)) = ji4 := by have h_ := hji4_; rw [Int.one_mul] at h_; exact h_
    have hji4v : a1 ≤ 64 → (IntKind.u64.wrap (2 ^ a1.toNat)) = ji4 := fun hle_ => by have h_ := hji4z hle_; rw [Int.one_mul] at h_; exact h_
    have c5b0 := eq_true (of_decide_eq_true (by first | (with_reducible assumption) | assumption) : 0 ≤ a1)
    obtain ⟨ji6, hji6⟩ : ∃ j_ : Int, (shr .u64 a0 a1) = j_ := ⟨_, rfl⟩
    replace H : (if (ji6) = 1 then (some (wrap64 (-(wrap64 (Go.bits .and .u64 a0 (IntKind.u64.wrap ((ji4) - 1))))))) else (some (wrap64 (Go.bits .and .u64 a0 (IntKind.u64.wrap ((ji4) - 1)))))) = some r := by first | (rw [hji6] at H; exact H) | (simp only [hji6] at H ⊢; exact H)
    have hji6_ : (a0 / 2 ^ min a1.toNat 64) = ji6 := hji6
    have hji6z : a1 ≤ 64 → (a0 / 2 ^ a1.toNat) = ji6 := shr_small hji6
    by_cases c7 : (ji6) = 1
    · rw [if_pos c7] at H
      have c7b0 : ((ji6) == 1) = true := beq_iff_eq.mpr c7
      have c7b1 : ((ji6) != 1) = false := bne_eq_false_iff_eq.mpr c7
      clear c7
      obtain rfl := Option.some.inj H
      go_enter Try.func25, Try.ntmps25
      go_wp2
      go_ret
      exact ⟨by first | rfl | (simp; done) | (simp only [← hji4, ← hji6] <;> (first | rfl | simp)) | (simp [*]; done), by repeat (first | exact Drawn0.refl _ | apply Drawn0.step)⟩
    · rw [if_neg c7] at H
      have c7b0 : ((ji6) == 1) = false := beq_eq_false_iff_ne.mpr c7
      have c7b1 : ((ji6) != 1) = true := bne_iff_ne.mpr c7
      obtain rfl := Option.some.inj H
      go_enter Try.func25, Try.ntmps25
      go_wp2
      go_ret
      exact ⟨by first | rfl | (simp; done) | (simp only [← hji4, ← hji6] <;> (first | rfl | simp)) | (simp [*]; done), by repeat (first | exact Drawn0.refl _ | apply Drawn0.step)⟩
  · rw [if_neg c3] at H
    exact absurd H (by simp)


end Go.Proofs.Ytdepcnaiobfpkaa.PAll
