/- Printed by the kit's print.py, called for several laws at once: functions as plain Lean, and the walks' contracts. -/
import Derived.Test.YtnehminojlocoaaDoorPAllx0
namespace Go.Proofs.YtnehminojlocoaaDoor.PAll
open Go.RowKit Go.Proofs.YtnehminojlocoaaDoorW.PrintWords Go.Proofs.YtnehminojlocoaaDoorW.PrintLast Go.Proofs.YtnehminojlocoaaDoorW.PrintMore
attribute [local go_sem] max2_int min2_int max_two min_two max_three min_three max_four min_four   -- for this text's walks alone
set_option linter.unusedVariables false
set_option linter.unusedSimpArgs false

/-! ### impl_own: function 16 -/
def impl_own.f (l0 : List Int) : Option (List Int) := (some (([] : List Int) : List Int)).bind fun y101 => (if y101.length + l0.length < 140737488355328 then (some (y101 ++ l0)) else (none))
set_option maxHeartbeats 8000000 in
set_option maxRecDepth 100000 in
theorem impl_own.calls (A0 : Option Addr) (c0 : Nat) (l0 : List Int) (r : List Int) (w : World) (hr0 : Kd.C (Kd.int .u8) w A0 l0.length l0) (hc0 : l0.length ≤ c0) (h : impl_own.f l0 = some r) :
    Calls Tryd.prog 16 #[.slice A0 l0.length c0] w fun e w' => ∃ v0_ : Value, e = .returned (v0_) ∧ Kd.R (Kd.int .u8) 5 w' w.heap.size (fun _ => True) v0_ r ∧ Below w.heap.size w w' := by
  have HR0 := Aside0.mk hr0
  have HC0 := Aside0.mk hc0
  clear hr0 hc0
  have HB := Aside0.mk (Below.refl w.heap.size w)
  have H : ((some (([] : List Int) : List Int)).bind fun y101 => (if y101.length + l0.length < 140737488355328 then (some (y101 ++ l0)) else (none))) = some r := h
  clear h
  obtain ⟨y101, hy101⟩ : ∃ y_ : List Int, y_ = (([] : List Int)) := ⟨_, rfl⟩
  replace H : (if y101.length + l0.length < 140737488355328 then (some (y101 ++ l0)) else (none)) = some r := by first | (rw [hy101]; with_reducible exact H) | (have H2_ := (Option.bind_some _ _).symm.trans H; rw [hy101]; with_reducible exact H2_) | (have H2_ := (Option.bind_some _ _).symm.trans H; with_reducible exact H2_) | with_reducible exact H | (rw [hy101]; exact H) | exact H
  have Ny101 := Aside0.mk hy101
  clear hy101
  by_cases c2 : y101.length + l0.length < 140737488355328
  · rw [if_pos c2] at H
    have LMc2 := Aside0.mk c2
    clear c2
    obtain ⟨y104, hy104⟩ : ∃ y_ : List Int, y_ = (y101 ++ l0) := ⟨_, rfl⟩
    replace H : (some y104) = some r := by first | (rw [hy104]; with_reducible exact H) | (have H2_ := (Option.bind_some _ _).symm.trans H; rw [hy104]; with_reducible exact H2_) | (have H2_ := (Option.bind_some _ _).symm.trans H; with_reducible exact H2_) | with_reducible exact H | (rw [hy104]; exact H) | exact H
    have Ny104 := Aside0.mk hy104
    clear hy104
    obtain rfl := Option.some.inj H
    go_enter Tryd.func16, Tryd.ntmps16
    go_wp2_with (first | ((with_reducible refine gate_dst (N := 3) rfl ?_); refine Kd.R_lit (Kd.int .u8) _ 5 ?hg (N := 3) ?hd (xs := ([] : List Int)) (inner := []) (ok := fun _ => True) (okp := fun _ => True) ?hr ?hp (fun _ hk => hk) trivial (Below.refl _ _) (Nat.le_refl _) (by simp) ?_; (case hd => rfl); (case hg => rfl); (case hr => first | (go_simp; done) | (go_simp; rfl)); (case hp => exact (Reps.none _ _)); intro v102 w3 ho4 hb hg_ hnew_; clear hg_ hnew_; (first | rw [← Ny101.out] at ho4 | (simp only [Int.reduceToNat] at ho4; rw [← Ny101.out] at ho4)); have n0_ := Aside0.mk (Kd.R_lower ho4 (below_size (by repeat (first | (with_reducible first | exact HB.out | apply below_alloc | apply pw_below_drewN | apply below_drew1) | exact HB.out)))); have n1_ := Aside0.mk (below_step (by repeat (first | (with_reducible first | exact HB.out | apply below_alloc | apply pw_below_drewN | apply below_drew1) | exact HB.out)) hb); clear HB; have HO103 := n0_; have HB := n1_; clear n0_ n1_; clear hb ho4) | ((with_reducible refine gate_builtin (b := .append) (xs := #[.tmp 3, .tmp 4]) rfl ?_); at_builtin; refine Kd.R_append_rows (Kd.int .u8) (w0 := w) w.heap.size rfl (.tmp 3) (.tmp 4) 22 5 (.int .u8 0) 1 rfl Tryd.underlying22 info5 rfl (by decide) (by omega) v102 y101 l0 _ _ _ (fun _ => True) (fun _ => False) rfl rfl ?aO ?aR (fun _ _ h => h) (fun _ h => h.elim) ?aF ?aB ?aS ?aL ?_; (case aR => repeat (first | exact (Kd.C_below HR0.out HB.out) | (with_reducible refine Kd.C_alloc ?_ _) | (with_reducible refine Kd.C_drewN ?_ _) | (with_reducible refine Kd.C_drew ?_))); (case aB => exact (by repeat (first | (with_reducible first | exact HB.out | apply below_alloc | apply pw_below_drewN | apply below_drew1) | exact HB.out))); (case aF => exact (fun _ _ => trivial)); (case aO => exact (by (with_reducible repeat (first | apply Kd.R_alloc | apply Kd.R_drewN | apply Kd.R_drew)); exact HO103.out)); (case aS => exact (below_size (by repeat (first | (with_reducible first | exact HB.out | apply below_alloc | apply pw_below_drewN | apply below_drew1) | exact HB.out)))); (case aL => have := LMc2.out; omega); intro v105 w5 ho hb hg hat; rw [← Ny104.out] at ho; have n0_ := Aside0.mk (hb); have n1_ := Aside0.mk (ho); clear HB; clear HO103; have HB := n0_; have HO106 := n1_; clear n0_ n1_; clear ho hb hg hat))
    go_ret
    exact ⟨_, by first | rfl | (simp [errW_none, errW_some] <;> rfl) | (simp [*, errW_none, errW_some] <;> rfl), by (with_reducible repeat (first | apply Kd.R_alloc | apply Kd.R_drewN | apply Kd.R_drew)); exact HO106.out, by repeat (first | (with_reducible first | exact HB.out | apply below_alloc | apply pw_below_drewN | apply below_drew1) | exact HB.out)⟩
  · rw [if_neg c2] at H
    exact absurd H (by simp)


/-! ### laws_hashSize: function 8 -/
def laws_hashSize.f (a0 : Int) : Option (Int) := if 0 ≤ (Int.tmod a0 3) then (some (shl .i64 8 (Int.tmod a0 3))) else (none)
set_option maxHeartbeats 8000000 in
set_option maxRecDepth 100000 in
theorem laws_hashSize.calls (a0 : Int) (r : Int) (w : World) (h : laws_hashSize.f a0 = some r) :
    Calls Tryd.prog 8 #[.int .u8 a0] w fun e w' => e = .returned (.int .i64 r) ∧ Drawn0 w w' := by
  have H : (if 0 ≤ (Int.tmod a0 3) then (some (shl .i64 8 (Int.tmod a0 3))) else (none)) = some r := h
  clear h
  obtain ⟨ji2, hji2⟩ : ∃ j_ : Int, (Int.tmod a0 3) = j_ := ⟨_, rfl⟩
  replace H : (if 0 ≤ (ji2) then (some (shl .i64 8 (ji2))) else (none)) = some r := by first | (rw [hji2] at H; exact H) | (simp only [hji2] at H ⊢; exact H)
  by_cases c3 : 0 ≤ (ji2)
  · rw [if_pos c3] at H
    have c3b0 := eq_true c3
    have c3b1 : decide (0 ≤ (ji2)) = true := decide_eq_true c3
    clear c3
    obtain ⟨ji4, hji4⟩ : ∃ j_ : Int, (shl .i64 8 (ji2)) = j_ := ⟨_, rfl⟩
    replace H : (some ji4) = some r := by first | (rw [hji4] at H; exact H) | (simp only [hji4] at H ⊢; exact H)
    have hji4_ : (IntKind.i64.wrap (8 * 2 ^ min (ji2).toNat 64)) = ji4 := hji4
    have hji4z : (ji2) ≤ 64 → (IntKind.i64.wrap (8 * 2 ^ (ji2).toNat)) = ji4 := shl_small hji4
    have hji4y : (wrap64 (8 * 2 ^ min (ji2).toNat 64)) = ji4 := (i64_w _).symm.trans hji4_
    have hji4x : (ji2) ≤ 64 → (wrap64 (8 * 2 ^ (ji2).toNat)) = ji4 := fun h_ => (i64_w _).symm.trans (hji4z h_)
    obtain rfl := Option.some.inj H
    go_enter Tryd.func8, Tryd.ntmps8
    go_wp2
    go_ret
    exact ⟨by first | rfl | (simp; done) | (simp only [← hji2, ← hji4] <;> (first | rfl | simp)) | (simp [*]; done), by repeat (first | exact Drawn0.refl _ | apply Drawn0.step)⟩
  · rw [if_neg c3] at H
    exact absurd H (by simp)


/-! ### spec_octet: function 50 -/
def spec_octet.f (a0 : Int) (a1 : Int) (a2 : Int) : Option (Int) := if 0 ≤ (wrap64 (8 * a1)) then (if 0 ≤ (wrap64 (8 * a2)) then (some (shl .u64 (Go.bits .and .u64 (shr .u64 a0 (wrap64 (8 * a1))) 255) (wrap64 (8 * a2)))) else (none)) else (none)
set_option maxHeartbeats 8000000 in
set_option maxRecDepth 100000 in
theorem spec_octet.calls (a0 : Int) (a1 : Int) (a2 : Int) (r : Int) (w : World) (h : spec_octet.f a0 a1 a2 = some r) :
    Calls Tryd.prog 50 #[.int .u64 a0, .int .i64 a1, .int .i64 a2] w fun e w' => e = .returned (.int .u64 r) ∧ Drawn0 w w' := by
  have H : (if 0 ≤ (wrap64 (8 * a1)) then (if 0 ≤ (wrap64 (8 * a2)) then (some (shl .u64 (Go.bits .and .u64 (shr .u64 a0 (wrap64 (8 * a1))) 255) (wrap64 (8 * a2)))) else (none)) else (none)) = some r := h
  clear h
  obtain ⟨ji4, hji4⟩ : ∃ j_ : Int, (wrap64 (8 * a1)) = j_ := ⟨_, rfl⟩
  replace H : (if 0 ≤ (ji4) then (if 0 ≤ (wrap64 (8 * a2)) then (some (shl .u64 (Go.bits .and .u64 (shr .u64 a0 (ji4)) 255) (wrap64 (8 * a2)))) else (none)) else (none)) = some r := by first | (rw [hji4] at H; exact H) | (simp only [hji4] at H ⊢; exact H)
  have hji4w : (IntKind.i64.wrap (8 * a1)) = ji4 := (i64_w _).trans hji4
  by_cases c5 : 0 ≤ (ji4)
  · rw [if_pos c5] at H
    have c5b0 := eq_true c5
    have c5b1 : decide (0 ≤ (ji4)) = true := decide_eq_true c5
    clear c5
    obtain ⟨ji6, hji6⟩ : ∃ j_ : Int, (shr .u64 a0 (ji4)) = j_ := ⟨_, rfl⟩
    replace H : (if 0 ≤ (wrap64 (8 * a2)) then (some (shl .u64 (Go.bits .and .u64 (ji6) 255) (wrap64 (8 * a2)))) else (none)) = some r := by first | (rw [hji6] at H; exact H) | (simp only [hji6] at H ⊢; exact H)
    have hji6_ : (a0 / 2 ^ min (ji4).toNat 64) = ji6 := hji6
    have hji6z : (ji4) ≤ 64 → (a0 / 2 ^ (ji4).toNat) = ji6 := shr_small hji6
    obtain ⟨ji7, hji7⟩ : ∃ j_ : Int, (wrap64 (8 * a2)) = j_ := ⟨_, rfl⟩
    replace H : (if 0 ≤ (ji7) then (some (shl .u64 (Go.bits .and .u64 (ji6) 255) (ji7))) else (none)) = some r := by first | (rw [hji7] at H; exact H) | (simp only [hji7] at H ⊢; exact H)
    have hji7w : (IntKind.i64.wrap (8 * a2)) = ji7 := (i64_w _).trans hji7
    by_cases c8 : 0 ≤ (ji7)
    · rw [if_pos c8] at H
      have c8b0 := eq_true c8
      have c8b1 : decide (0 ≤ (ji7)) = true := decide_eq_true c8
      clear c8
      obtain ⟨ji9, hji9⟩ : ∃ j_ : Int, (shl .u64 (Go.bits .and .u64 (ji6) 255) (ji7)) = j_ := ⟨_, rfl⟩
      replace H : (some ji9) = some r := by first | (rw [hji9] at H; exact H) | (simp only [hji9] at H ⊢; exact H)
      have hji9_ : (IntKind.u64.wrap ((Go.bits .and .u64 (ji6) 255) * 2 ^ min (ji7).toNat 64)) = ji9 := hji9
      have hji9z : (ji7) ≤ 64 → (IntKind.u64.wrap ((Go.bits .and .u64 (ji6) 255) * 2 ^ (ji7).toNat)) = ji9 := shl_small hji9
      obtain rfl := Option.some.inj H
      go_enter Tryd.func50, Tryd.ntmps50
      go_wp2
      go_ret
      exact ⟨by first | rfl | (simp; done) | (simp only [← hji4, ← hji6, ← hji7, ← hji9] <;> (first | rfl | simp)) | (simp [*]; done), by repeat (first | exact Drawn0.refl _ | apply Drawn0.step)⟩
    · rw [if_neg c8] at H
      exact absurd H (by simp)
  · rw [if_neg c5] at H
    exact absurd H (by simp)


/-! ### spec_zipped: function 45 -/
def spec_zipped.f (a0 : Int) (a1 : Int) : Option (Int × Int) := (spec_octet.f a1 3 0).bind fun t107 => ((spec_octet.f a0 4 1).bind fun t108 => ((spec_octet.f a1 2 2).bind fun t109 => ((spec_octet.f a1 5 3).bind fun t110 => ((spec_octet.f a0 6 4).bind fun t111 => ((spec_octet.f a1 1 5).bind fun t112 => ((spec_octet.f a0 7 6).bind fun t113 => ((spec_octet.f a1 0 7).bind fun t114 => ((spec_octet.f a0 3 0).bind fun t115 => ((spec_octet.f a1 4 1).bind fun t116 => ((spec_octet.f a0 2 2).bind fun t117 => ((spec_octet.f a0 5 3).bind fun t118 => ((spec_octet.f a0 1 4).bind fun t119 => ((spec_octet.f a1 6 5).bind fun t120 => ((spec_octet.f a0 0 6).bind fun t121 => ((spec_octet.f a1 7 7).bind fun t122 => (some (Go.bits .or .u64 (Go.bits .or .u64 (Go.bits .or .u64 (Go.bits .or .u64 (Go.bits .or .u64 (Go.bits .or .u64 (Go.bits .or .u64 t115 t116) t117) t118) t119) t120) t121) t122, Go.bits .or .u64 (Go.bits .or .u64 (Go.bits .or .u64 (Go.bits .or .u64 (Go.bits .or .u64 (Go.bits .or .u64 (Go.bits .or .u64 t107 t108) t109) t110) t111) t112) t113) t114)))))))))))))))))
set_option maxHeartbeats 8000000 in
set_option maxRecDepth 100000 in
theorem spec_zipped.calls (a0 : Int) (a1 : Int) (r1 : Int) (r2 : Int) (w : World) (h : spec_zipped.f a0 a1 = some (r1, r2)) :
    Calls Tryd.prog 45 #[.int .u64 a0, .int .u64 a1] w fun e w' => e = .returned (.tuple #[.int .u64 r1, .int .u64 r2]) ∧ Drawn0 w w' := by
  have H : ((spec_octet.f a1 3 0).bind fun t107 => ((spec_octet.f a0 4 1).bind fun t108 => ((spec_octet.f a1 2 2).bind fun t109 => ((spec_octet.f a1 5 3).bind fun t110 => ((spec_octet.f a0 6 4).bind fun t111 => ((spec_octet.f a1 1 5).bind fun t112 => ((spec_octet.f a0 7 6).bind fun t113 => ((spec_octet.f a1 0 7).bind fun t114 => ((spec_octet.f a0 3 0).bind fun t115 => ((spec_octet.f a1 4 1).bind fun t116 => ((spec_octet.f a0 2 2).bind fun t117 => ((spec_octet.f a0 5 3).bind fun t118 => ((spec_octet.f a0 1 4).bind fun t119 => ((spec_octet.f a1 6 5).bind fun t120 => ((spec_octet.f a0 0 6).bind fun t121 => ((spec_octet.f a1 7 7).bind fun t122 => (some (Go.bits .or .u64 (Go.bits .or .u64 (Go.bits .or .u64 (Go.bits .or .u64 (Go.bits .or .u64 (Go.bits .or .u64 (Go.bits .or .u64 t115 t116) t117) t118) t119) t120) t121) t122, Go.bits .or .u64 (Go.bits .or .u64 (Go.bits .or .u64 (Go.bits .or .u64 (Go.bits .or .u64 (Go.bits .or .u64 (Go.bits .or .u64 t107 t108) t109) t110) t111) t112) t113) t114)))))))))))))))))) = some (r1, r2) := h
  clear h
  replace H := Option.bind_eq_some_iff.mp H
  obtain ⟨t107, A30, H⟩ := H
  replace H : ((spec_octet.f a0 4 1).bind fun t108 => ((spec_octet.f a1 2 2).bind fun t109 => ((spec_octet.f a1 5 3).bind fun t110 => ((spec_octet.f a0 6 4).bind fun t111 => ((spec_octet.f a1 1 5).bind fun t112 => ((spec_octet.f a0 7 6).bind fun t113 => ((spec_octet.f a1 0 7).bind fun t114 => ((spec_octet.f a0 3 0).bind fun t115 => ((spec_octet.f a1 4 1).bind fun t116 => ((spec_octet.f a0 2 2).bind fun t117 => ((spec_octet.f a0 5 3).bind fun t118 => ((spec_octet.f a0 1 4).bind fun t119 => ((spec_octet.f a1 6 5).bind fun t120 => ((spec_octet.f a0 0 6).bind fun t121 => ((spec_octet.f a1 7 7).bind fun t122 => (some (Go.bits .or .u64 (Go.bits .or .u64 (Go.bits .or .u64 (Go.bits .or .u64 (Go.bits .or .u64 (Go.bits .or .u64 (Go.bits .or .u64 t115 t116) t117) t118) t119) t120) t121) t122, Go.bits .or .u64 (Go.bits .or .u64 (Go.bits .or .u64 (Go.bits .or .u64 (Go.bits .or .u64 (Go.bits .or .u64 (Go.bits .or .u64 t107 t108) t109) t110) t111) t112) t113) t114))))))))))))))))) = some (r1, r2) := H
  have A3 := Aside0.mk A30
  clear A30
  replace H := Option.bind_eq_some_iff.mp H
  obtain ⟨t108, A40, H⟩ := H
  replace H : ((spec_octet.f a1 2 2).bind fun t109 => ((spec_octet.f a1 5 3).bind fun t110 => ((spec_octet.f a0 6 4).bind fun t111 => ((spec_octet.f a1 1 5).bind fun t112 => ((spec_octet.f a0 7 6).bind fun t113 => ((spec_octet.f a1 0 7).bind fun t114 => ((spec_octet.f a0 3 0).bind fun t115 => ((spec_octet.f a1 4 1).bind fun t116 => ((spec_octet.f a0 2 2).bind fun t117 => ((spec_octet.f a0 5 3).bind fun t118 => ((spec_octet.f a0 1 4).bind fun t119 => ((spec_octet.f a1 6 5).bind fun t120 => ((spec_octet.f a0 0 6).bind fun t121 => ((spec_octet.f a1 7 7).bind fun t122 => (some (Go.bits .or .u64 (Go.bits .or .u64 (Go.bits .or .u64 (Go.bits .or .u64 (Go.bits .or .u64 (Go.bits .or .u64 (Go.bits .or .u64 t115 t116) t117) t118) t119) t120) t121) t122, Go.bits .or .u64 (Go.bits .or .u64 (Go.bits .or .u64 (Go.bits .or .u64 (Go.bits .or .u64 (Go.bits .or .u64 (Go.bits .or .u64 t107 t108) t109) t110) t111) t112) t113) t114)))))))))))))))) = some (r1, r2) := H
  have A4 := Aside0.mk A40
  clear A40
  replace H := Option.bind_eq_some_iff.mp H
  obtain ⟨t109, A50, H⟩ := H
  replace H : ((spec_octet.f a1 5 3).bind fun t110 => ((spec_octet.f a0 6 4).bind fun t111 => ((spec_octet.f a1 1 5).bind fun t112 => ((spec_octet.f a0 7 6).bind fun t113 => ((spec_octet.f a1 0 7).bind fun t114 => ((spec_octet.f a0 3 0).bind fun t115 => ((spec_octet.f a1 4 1).bind fun t116 => ((spec_octet.f a0 2 2).bind fun t117 => ((spec_octet.f a0 5 3).bind fun t118 => ((spec_octet.f a0 1 4).bind fun t119 => ((spec_octet.f a1 6 5).bind fun t120 => ((spec_octet.f a0 0 6).bind fun t121 => ((spec_octet.f a1 7 7).bind fun t122 => (some (Go.bits .or .u64 (Go.bits .or .u64 (Go.bits .or .u64 (Go.bits .or .u64 (Go.bits .or .u64 (Go.bits .or .u64 (Go.bits .or .u64 t115 t116) t117) t118) t119) t120) t121) t122, Go.bits .or .u64 (Go.bits .or .u64 (Go.bits .or .u64 (Go.bits .or .u64 (Go.bits .or .u64 (Go.bits .or .u64 (Go.bits .or .u64 t107 t108) t109) t110) t111) t112) t113) t114))))))))))))))) = some (r1, r2) := H
  have A5 := Aside0.mk A50
  clear A50
  replace H := Option.bind_eq_some_iff.mp H
  obtain ⟨t110, A60, H⟩ := H
  replace H : ((spec_octet.f a0 6 4).bind fun t111 => ((spec_octet.f a1 1 5).bind fun t112 => ((spec_octet.f a0 7 6).bind fun t113 => ((spec_octet.f a1 0 7).bind fun t114 => ((spec_octet.f a0 3 0).bind fun t115 => ((spec_octet.f a1 4 1).bind fun t116 => ((spec_octet.f a0 2 2).bind fun t117 => ((spec_octet.f a0 5 3).bind fun t118 => ((spec_octet.f a0 1 4).bind fun t119 => ((spec_octet.f a1 6 5).bind fun t120 => ((spec_octet.f a0 0 6).bind fun t121 => ((spec_octet.f a1 7 7).bind fun t122 => (some (Go.bits .or .u64 (Go.bits .or .u64 (Go.bits .or .u64 (Go.bits .or .u64 (Go.bits .or .u64 (Go.bits .or .u64 (Go.bits .or .u64 t115 t116) t117) t118) t119) t120) t121) t122, Go.bits .or .u64 (Go.bits .or .u64 (Go.bits .or .u64 (Go.bits .or .u64 (Go.bits .or .u64 (Go.bits .or .u64 (Go.bits .or .u64 t107 t108) t109) t110) t111) t112) t113) t114)))))))))))))) = some (r1, r2) := H
  have A6 := Aside0.mk A60
  clear A60
  replace H := Option.bind_eq_some_iff.mp H
  obtain ⟨t111, A70, H⟩ := H
  replace H : ((spec_octet.f a1 1 5).bind fun t112 => ((spec_octet.f a0 7 6).bind fun t113 => ((spec_octet.f a1 0 7).bind fun t114 => ((spec_octet.f a0 3 0).bind fun t115 => ((spec_octet.f a1 4 1).bind fun t116 => ((spec_octet.f a0 2 2).bind fun t117 => ((spec_octet.f a0 5 3).bind fun t118 => ((spec_octet.f a0 1 4).bind fun t119 => ((spec_octet.f a1 6 5).bind fun t120 => ((spec_octet.f a0 0 6).bind fun t121 => ((spec_octet.f a1 7 7).bind fun t122 => (some (Go.bits .or .u64 (Go.bits .or .u64 (Go.bits .or .u64 (Go.bits .or .u64 (Go.bits .or .u64 (Go.bits .or .u64 (Go.bits .or .u64 t115 t116) t117) t118) t119) t120) t121) t122, Go.bits .or .u64 (Go.bits .or .u64 (Go.bits .or .u64 (Go.bits .or .u64 (Go.bits .or .u64 (Go.bits .or .u64 (Go.bits .or .u64 t107 t108) t109) t110) t111) t112) t113) t114))))))))))))) = some (r1, r2) := H
  have A7 := Aside0.mk A70
  clear A70
  replace H := Option.bind_eq_some_iff.mp H
  obtain ⟨t112, A80, H⟩ := H
  replace H : ((spec_octet.f a0 7 6).bind fun t113 => ((spec_octet.f a1 0 7).bind fun t114 => ((spec_octet.f a0 3 0).bind fun t115 => ((spec_octet.f a1 4 1).bind fun t116 => ((spec_octet.f a0 2 2).bind fun t117 => ((spec_octet.f a0 5 3).bind fun t118 => ((spec_octet.f a0 1 4).bind fun t119 => ((spec_octet.f a1 6 5).bind fun t120 => ((spec_octet.f a0 0 6).bind fun t121 => ((spec_octet.f a1 7 7).bind fun t122 => (some (Go.bits .or .u64 (Go.bits .or .u64 (Go.bits .or .u64 (Go.bits .or .u64 (Go.bits .or .u64 (Go.bits .or .u64 (Go.bits .or .u64 t115 t116) t117) t118) t119) t120) t121) t122, Go.bits .or .u64 (Go.bits .or .u64 (Go.bits .or .u64 (Go.bits .or .u64 (Go.bits .or .u64 (Go.bits .or .u64 (Go.bits .or .u64 t107 t108) t109) t110) t111) t112) t113) t114)))))))))))) = some (r1, r2) := H
  have A8 := Aside0.mk A80
  clear A80
  replace H := Option.bind_eq_some_iff.mp H
  obtain ⟨t113, A90, H⟩ := H
  replace H : ((spec_octet.f a1 0 7).bind fun t114 => ((spec_octet.f a0 3 0).bind fun t115 => ((spec_octet.f a1 4 1).bind fun t116 => ((spec_octet.f a0 2 2).bind fun t117 => ((spec_octet.f a0 5 3).bind fun t118 => ((spec_octet.f a0 1 4).bind fun t119 => ((spec_octet.f a1 6 5).bind fun t120 => ((spec_octet.f a0 0 6).bind fun t121 => ((spec_octet.f a1 7 7).bind fun t122 => (some (Go.bits .or .u64 (Go.bits .or .u64 (Go.bits .or .u64 (Go.bits .or .u64 (Go.bits .or .u64 (Go.bits .or .u64 (Go.bits .or .u64 t115 t116) t117) t118) t119) t120) t121) t122, Go.bits .or .u64 (Go.bits .or .u64 (Go.bits .or .u64 (Go.bits .or .u64 (Go.bits .or .u64 (Go.bits .or .u64 (Go.bits .or .u64 t107 t108) t109) t110) t111) t112) t113) t114))))))))))) = some (r1, r2) := H
  have A9 := Aside0.mk A90
  clear A90
  replace H := Option.bind_eq_some_iff.mp H
  obtain ⟨t114, A100, H⟩ := H
  replace H : ((spec_octet.f a0 3 0).bind fun t115 => ((spec_octet.f a1 4 1).bind fun t116 => ((spec_octet.f a0 2 2).bind fun t117 => ((spec_octet.f a0 5 3).bind fun t118 => ((spec_octet.f a0 1 4).bind fun t119 => ((spec_octet.f a1 6 5).bind fun t120 => ((spec_octet.f a0 0 6).bind fun t121 => ((spec_octet.f a1 7 7).bind fun t122 => (some (Go.bits .or .u64 (Go.bits .or .u64 (Go.bits .or .u64 (Go.bits .or .u64 (Go.bits .or .u64 (Go.bits .or .u64 (Go.bits .or .u64 t115 t116) t117) t118) t119) t120) t121) t122, Go.bits .or .u64 (Go.bits .or .u64 (Go.bits .or .u64 (Go.bits .or .u64 (Go.bits .or .u64 (Go.bits .or .u64 (Go.bits .or .u64 t107 t108) t109) t110) t111) t112) t113) t114)))))))))) = some (r1, r2) := H
  have A10 := Aside0.mk A100
  clear A100
  replace H := Option.bind_eq_some_iff.mp H
  obtain ⟨t115, A110, H⟩ := H
  replace H : ((spec_octet.f a1 4 1).bind fun t116 => ((spec_octet.f a0 2 2).bind fun t117 => ((spec_octet.f a0 5 3).bind fun t118 => ((spec_octet.f a0 1 4).bind fun t119 => ((spec_octet.f a1 6 5).bind fun t120 => ((spec_octet.f a0 0 6).bind fun t121 => ((spec_octet.f a1 7 7).bind fun t122 => (some (Go.bits .or .u64 (Go.bits .or .u64 (Go.bits .or .u64 (Go.bits .or .u64 (Go.bits .or .u64 (Go.bits .or .u64 (Go.bits .or .u64 t115 t116) t117) t118) t119) t120) t121) t122, Go.bits .or .u64 (Go.bits .or .u64 (Go.bits .or .u64 (Go.bits .or .u64 (Go.bits .or .u64 (Go.bits .or .u64 (Go.bits .or .u64 t107 t108) t109) t110) t111) t112) t113) t114))))))))) = some (r1, r2) := H
  have A11 := Aside0.mk A110
  clear A110
  replace H := Option.bind_eq_some_iff.mp H
  obtain ⟨t116, A120, H⟩ := H
  replace H : ((spec_octet.f a0 2 2).bind fun t117 => ((spec_octet.f a0 5 3).bind fun t118 => ((spec_octet.f a0 1 4).bind fun t119 => ((spec_octet.f a1 6 5).bind fun t120 => ((spec_octet.f a0 0 6).bind fun t121 => ((spec_octet.f a1 7 7).bind fun t122 => (some (Go.bits .or .u64 (Go.bits .or .u64 (Go.bits .or .u64 (Go.bits .or .u64 (Go.bits .or .u64 (Go.bits .or .u64 (Go.bits .or .u64 t115 t116) t117) t118) t119) t120) t121) t122, Go.bits .or .u64 (Go.bits .or .u64 (Go.bits .or .u64 (Go.bits .or .u64 (Go.bits .or .u64 (Go.bits .or .u64 (Go.bits .or .u64 t107 t108) t109) t110) t111) t112) t113) t114)))))))) = some (r1, r2) := H
  have A12 := Aside0.mk A120
  clear A120
  replace H := Option.bind_eq_some_iff.mp H
  obtain ⟨t117, A130, H⟩ := H
  replace H : ((spec_octet.f a0 5 3).bind fun t118 => ((spec_octet.f a0 1 4).bind fun t119 => ((spec_octet.f a1 6 5).bind fun t120 => ((spec_octet.f a0 0 6).bind fun t121 => ((spec_octet.f a1 7 7).bind fun t122 => (some (Go.bits .or .u64 (Go.bits .or .u64 (Go.bits .or .u64 (Go.bits .or .u64 (Go.bits .or .u64 (Go.bits .or .u64 (Go.bits .or .u64 t115 t116) t117) t118) t119) t120) t121) t122, Go.bits .or .u64 (Go.bits .or .u64 (Go.bits .or .u64 (Go.bits .or .u64 (Go.bits .or .u64 (Go.bits .or .u64 (Go.bits .or .u64 t107 t108) t109) t110) t111) t112) t113) t114))))))) = some (r1, r2) := H
  have A13 := Aside0.mk A130
  clear A130
  replace H := Option.bind_eq_some_iff.mp H
  obtain ⟨t118, A140, H⟩ := H
  replace H : ((spec_octet.f a0 1 4).bind fun t119 => ((spec_octet.f a1 6 5).bind fun t120 => ((spec_octet.f a0 0 6).bind fun t121 => ((spec_octet.f a1 7 7).bind fun t122 => (some (Go.bits .or .u64 (Go.bits .or .u64 (Go.bits .or .u64 (Go.bits .or .u64 (Go.bits .or .u64 (Go.bits .or .u64 (Go.bits .or .u64 t115 t116) t117) t118) t119) t120) t121) t122, Go.bits .or .u64 (Go.bits .or .u64 (Go.bits .or .u64 (Go.bits .or .u64 (Go.bits .or .u64 (Go.bits .or .u64 (Go.bits .or .u64 t107 t108) t109) t110) t111) t112) t113) t114)))))) = some (r1, r2) := H
  have A14 := Aside0.mk A140
  clear A140
  replace H := Option.bind_eq_some_iff.mp H
  obtain ⟨t119, A150, H⟩ := H
  replace H : ((spec_octet.f a1 6 5).bind fun t120 => ((spec_octet.f a0 0 6).bind fun t121 => ((spec_octet.f a1 7 7).bind fun t122 => (some (Go.bits .or .u64 (Go.bits .or .u64 (Go.bits .or .u64 (Go.bits .or .u64 (Go.bits .or .u64 (Go.bits .or .u64 (Go.bits .or .u64 t115 t116) t117) t118) t119) t120) t121) t122, Go.bits .or .u64 (Go.bits .or .u64 (Go.bits .or .u64 (Go.bits .or .u64 (Go.bits .or .u64 (Go.bits .or .u64 (Go.bits .or .u64 t107 t108) t109) t110) t111) t112) t113) t114))))) = some (r1, r2) := H
  have A15 := Aside0.mk A150
  clear A150
  replace H := Option.bind_eq_some_iff.mp H
  obtain ⟨t120, A160, H⟩ := H
  replace H : ((spec_octet.f a0 0 6).bind fun t121 => ((spec_octet.f a1 7 7).bind fun t122 => (some (Go.bits .or .u64 (Go.bits .or .u64 (Go.bits .or .u64 (Go.bits .or .u64 (Go.bits .or .u64 (Go.bits .or .u64 (Go.bits .or .u64 t115 t116) t117) t118) t119) t120) t121) t122, Go.bits .or .u64 (Go.bits .or .u64 (Go.bits .or .u64 (Go.bits .or .u64 (Go.bits .or .u64 (Go.bits .or .u64 (Go.bits .or .u64 t107 t108) t109) t110) t111) t112) t113) t114)))) = some (r1, r2) := H
  have A16 := Aside0.mk A160
  clear A160
  replace H := Option.bind_eq_some_iff.mp H
  obtain ⟨t121, A170, H⟩ := H
  replace H : ((spec_octet.f a1 7 7).bind fun t122 => (some (Go.bits .or .u64 (Go.bits .or .u64 (Go.bits .or .u64 (Go.bits .or .u64 (Go.bits .or .u64 (Go.bits .or .u64 (Go.bits .or .u64 t115 t116) t117) t118) t119) t120) t121) t122, Go.bits .or .u64 (Go.bits .or .u64 (Go.bits .or .u64 (Go.bits .or .u64 (Go.bits .or .u64 (Go.bits .or .u64 (Go.bits .or .u64 t107 t108) t109) t110) t111) t112) t113) t114))) = some (r1, r2) := H
  have A17 := Aside0.mk A170
  clear A170
  replace H := Option.bind_eq_some_iff.mp H
  obtain ⟨t122, A180, H⟩ := H
  replace H : (some (Go.bits .or .u64 (Go.bits .or .u64 (Go.bits .or .u64 (Go.bits .or .u64 (Go.bits .or .u64 (Go.bits .or .u64 (Go.bits .or .u64 t115 t116) t117) t118) t119) t120) t121) t122, Go.bits .or .u64 (Go.bits .or .u64 (Go.bits .or .u64 (Go.bits .or .u64 (Go.bits .or .u64 (Go.bits .or .u64 (Go.bits .or .u64 t107 t108) t109) t110) t111) t112) t113) t114)) = some (r1, r2) := H
  have A18 := Aside0.mk A180
  clear A180
  simp only [Option.some.injEq, Prod.mk.injEq] at H
  obtain ⟨rfl, rfl⟩ := H
  go_enter Tryd.func45, Tryd.ntmps45
  go_wp2_with (first | ((with_reducible refine gate_callee (f := 50) rfl ?_); refine goesL_ (some 7) rfl rfl Tryd.func50 (by kernel_rfl) rfl #[.int .u64 a1, .int .i64 3, .int .i64 0] rfl (by (try simp only [List.map_toArray, List.map_cons, List.map_nil]); first | done | rfl | (simp only [List.length_drop, List.length_take]; rfl)) ?_; (with_reducible refine (spec_octet.calls a1 3 0 t107 _ A3.out).mono ?_); rintro e w' ⟨rfl, ⟨nd, rfl⟩⟩; refine ⟨_, rfl, ?_⟩) | ((with_reducible refine gate_callee (f := 50) rfl ?_); refine goesL_ (some 9) rfl rfl Tryd.func50 (by kernel_rfl) rfl #[.int .u64 a0, .int .i64 4, .int .i64 1] rfl (by (try simp only [List.map_toArray, List.map_cons, List.map_nil]); first | done | rfl | (simp only [List.length_drop, List.length_take]; rfl)) ?_; (with_reducible refine (spec_octet.calls a0 4 1 t108 _ A4.out).mono ?_); rintro e w' ⟨rfl, ⟨nd, rfl⟩⟩; refine ⟨_, rfl, ?_⟩) | ((with_reducible refine gate_callee (f := 50) rfl ?_); refine goesL_ (some 12) rfl rfl Tryd.func50 (by kernel_rfl) rfl #[.int .u64 a1, .int .i64 2, .int .i64 2] rfl (by (try simp only [List.map_toArray, List.map_cons, List.map_nil]); first | done | rfl | (simp only [List.length_drop, List.length_take]; rfl)) ?_; (with_reducible refine (spec_octet.calls a1 2 2 t109 _ A5.out).mono ?_); rintro e w' ⟨rfl, ⟨nd, rfl⟩⟩; refine ⟨_, rfl, ?_⟩) | ((with_reducible refine gate_callee (f := 50) rfl ?_); refine goesL_ (some 15) rfl rfl Tryd.func50 (by kernel_rfl) rfl #[.int .u64 a1, .int .i64 5, .int .i64 3] rfl (by (try simp only [List.map_toArray, List.map_cons, List.map_nil]); first | done | rfl | (simp only [List.length_drop, List.length_take]; rfl)) ?_; (with_reducible refine (spec_octet.calls a1 5 3 t110 _ A6.out).mono ?_); rintro e w' ⟨rfl, ⟨nd, rfl⟩⟩; refine ⟨_, rfl, ?_⟩) | ((with_reducible refine gate_callee (f := 50) rfl ?_); refine goesL_ (some 18) rfl rfl Tryd.func50 (by kernel_rfl) rfl #[.int .u64 a0, .int .i64 6, .int .i64 4] rfl (by (try simp only [List.map_toArray, List.map_cons, List.map_nil]); first | done | rfl | (simp only [List.length_drop, List.length_take]; rfl)) ?_; (with_reducible refine (spec_octet.calls a0 6 4 t111 _ A7.out).mono ?_); rintro e w' ⟨rfl, ⟨nd, rfl⟩⟩; refine ⟨_, rfl, ?_⟩) | ((with_reducible refine gate_callee (f := 50) rfl ?_); refine goesL_ (some 21) rfl rfl Tryd.func50 (by kernel_rfl) rfl #[.int .u64 a1, .int .i64 1, .int .i64 5] rfl (by (try simp only [List.map_toArray, List.map_cons, List.map_nil]); first | done | rfl | (simp only [List.length_drop, List.length_take]; rfl)) ?_; (with_reducible refine (spec_octet.calls a1 1 5 t112 _ A8.out).mono ?_); rintro e w' ⟨rfl, ⟨nd, rfl⟩⟩; refine ⟨_, rfl, ?_⟩) | ((with_reducible refine gate_callee (f := 50) rfl ?_); refine goesL_ (some 24) rfl rfl Tryd.func50 (by kernel_rfl) rfl #[.int .u64 a0, .int .i64 7, .int .i64 6] rfl (by (try simp only [List.map_toArray, List.map_cons, List.map_nil]); first | done | rfl | (simp only [List.length_drop, List.length_take]; rfl)) ?_; (with_reducible refine (spec_octet.calls a0 7 6 t113 _ A9.out).mono ?_); rintro e w' ⟨rfl, ⟨nd, rfl⟩⟩; refine ⟨_, rfl, ?_⟩) | ((with_reducible refine gate_callee (f := 50) rfl ?_); refine goesL_ (some 27) rfl rfl Tryd.func50 (by kernel_rfl) rfl #[.int .u64 a1, .int .i64 0, .int .i64 7] rfl (by (try simp only [List.map_toArray, List.map_cons, List.map_nil]); first | done | rfl | (simp only [List.length_drop, List.length_take]; rfl)) ?_; (with_reducible refine (spec_octet.calls a1 0 7 t114 _ A10.out).mono ?_); rintro e w' ⟨rfl, ⟨nd, rfl⟩⟩; refine ⟨_, rfl, ?_⟩) | ((with_reducible refine gate_callee (f := 50) rfl ?_); refine goesL_ (some 30) rfl rfl Tryd.func50 (by kernel_rfl) rfl #[.int .u64 a0, .int .i64 3, .int .i64 0] rfl (by (try simp only [List.map_toArray, List.map_cons, List.map_nil]); first | done | rfl | (simp only [List.length_drop, List.length_take]; rfl)) ?_; (with_reducible refine (spec_octet.calls a0 3 0 t115 _ A11.out).mono ?_); rintro e w' ⟨rfl, ⟨nd, rfl⟩⟩; refine ⟨_, rfl, ?_⟩) | ((with_reducible refine gate_callee (f := 50) rfl ?_); refine goesL_ (some 32) rfl rfl Tryd.func50 (by kernel_rfl) rfl #[.int .u64 a1, .int .i64 4, .int .i64 1] rfl (by (try simp only [List.map_toArray, List.map_cons, List.map_nil]); first | done | rfl | (simp only [List.length_drop, List.length_take]; rfl)) ?_; (with_reducible refine (spec_octet.calls a1 4 1 t116 _ A12.out).mono ?_); rintro e w' ⟨rfl, ⟨nd, rfl⟩⟩; refine ⟨_, rfl, ?_⟩) | ((with_reducible refine gate_callee (f := 50) rfl ?_); refine goesL_ (some 35) rfl rfl Tryd.func50 (by kernel_rfl) rfl #[.int .u64 a0, .int .i64 2, .int .i64 2] rfl (by (try simp only [List.map_toArray, List.map_cons, List.map_nil]); first | done | rfl | (simp only [List.length_drop, List.length_take]; rfl)) ?_; (with_reducible refine (spec_octet.calls a0 2 2 t117 _ A13.out).mono ?_); rintro e w' ⟨rfl, ⟨nd, rfl⟩⟩; refine ⟨_, rfl, ?_⟩) | ((with_reducible refine gate_callee (f := 50) rfl ?_); refine goesL_ (some 38) rfl rfl Tryd.func50 (by kernel_rfl) rfl #[.int .u64 a0, .int .i64 5, .int .i64 3] rfl (by (try simp only [List.map_toArray, List.map_cons, List.map_nil]); first | done | rfl | (simp only [List.length_drop, List.length_take]; rfl)) ?_; (with_reducible refine (spec_octet.calls a0 5 3 t118 _ A14.out).mono ?_); rintro e w' ⟨rfl, ⟨nd, rfl⟩⟩; refine ⟨_, rfl, ?_⟩) | ((with_reducible refine gate_callee (f := 50) rfl ?_); refine goesL_ (some 41) rfl rfl Tryd.func50 (by kernel_rfl) rfl #[.int .u64 a0, .int .i64 1, .int .i64 4] rfl (by (try simp only [List.map_toArray, List.map_cons, List.map_nil]); first | done | rfl | (simp only [List.length_drop, List.length_take]; rfl)) ?_; (with_reducible refine (spec_octet.calls a0 1 4 t119 _ A15.out).mono ?_); rintro e w' ⟨rfl, ⟨nd, rfl⟩⟩; refine ⟨_, rfl, ?_⟩) | ((with_reducible refine gate_callee (f := 50) rfl ?_); refine goesL_ (some 44) rfl rfl Tryd.func50 (by kernel_rfl) rfl #[.int .u64 a1, .int .i64 6, .int .i64 5] rfl (by (try simp only [List.map_toArray, List.map_cons, List.map_nil]); first | done | rfl | (simp only [List.length_drop, List.length_take]; rfl)) ?_; (with_reducible refine (spec_octet.calls a1 6 5 t120 _ A16.out).mono ?_); rintro e w' ⟨rfl, ⟨nd, rfl⟩⟩; refine ⟨_, rfl, ?_⟩) | ((with_reducible refine gate_callee (f := 50) rfl ?_); refine goesL_ (some 47) rfl rfl Tryd.func50 (by kernel_rfl) rfl #[.int .u64 a0, .int .i64 0, .int .i64 6] rfl (by (try simp only [List.map_toArray, List.map_cons, List.map_nil]); first | done | rfl | (simp only [List.length_drop, List.length_take]; rfl)) ?_; (with_reducible refine (spec_octet.calls a0 0 6 t121 _ A17.out).mono ?_); rintro e w' ⟨rfl, ⟨nd, rfl⟩⟩; refine ⟨_, rfl, ?_⟩) | ((with_reducible refine gate_callee (f := 50) rfl ?_); refine goesL_ (some 50) rfl rfl Tryd.func50 (by kernel_rfl) rfl #[.int .u64 a1, .int .i64 7, .int .i64 7] rfl (by (try simp only [List.map_toArray, List.map_cons, List.map_nil]); first | done | rfl | (simp only [List.length_drop, List.length_take]; rfl)) ?_; (with_reducible refine (spec_octet.calls a1 7 7 t122 _ A18.out).mono ?_); rintro e w' ⟨rfl, ⟨nd, rfl⟩⟩; refine ⟨_, rfl, ?_⟩))
  go_ret2
  exact ⟨by first | rfl | (simp; done) | (simp [*]; done), by repeat (first | exact Drawn0.refl _ | apply Drawn0.step)⟩


/-! ### spec_turned: function 37 -/
def spec_turned.f (a0 : Int) (a1 : Int) : Option (Int) := if 0 ≤ a1 then (if 0 ≤ (wrap64 (32 - a1)) then (some (Go.bits .or .u32 (shl .u32 a0 a1) (shr .u32 a0 (wrap64 (32 - a1))))) else (none)) else (none)
set_option maxHeartbeats 8000000 in
set_option maxRecDepth 100000 in
theorem spec_turned.calls (a0 : Int) (a1 : Int) (r : Int) (w : World) (h : spec_turned.f a0 a1 = some r) :
    Calls Tryd.prog 37 #[.int .u32 a0, .int .i64 a1] w fun e w' => e = .returned (.int .u32 r) ∧ Drawn0 w w' := by
  have H : (if 0 ≤ a1 then (if 0 ≤ (wrap64 (32 - a1)) then (some (Go.bits .or .u32 (shl .u32 a0 a1) (shr .u32 a0 (wrap64 (32 - a1))))) else (none)) else (none)) = some r := h
  clear h
  by_cases c3 : 0 ≤ a1
  · rw [if_pos c3] at H
    have c3b0 := eq_true c3
    have c3b1 : decide (0 ≤ a1) = true := decide_eq_true c3
    clear c3
    obtain ⟨ji4, hji4⟩ : ∃ j_ : Int, (shl .u32 a0 a1) = j_ := ⟨_, rfl⟩
    replace H : (if 0 ≤ (wrap64 (32 - a1)) then (some (Go.bits .or .u32 (ji4) (shr .u32 a0 (wrap64 (32 - a1))))) else (none)) = some r := by first | (rw [hji4] at H; exact H) | (simp only [hji4] at H ⊢; exact H)
    have hji4_ : (IntKind.u32.wrap (a0 * 2 ^ min a1.toNat 32)) = ji4 := hji4
    have hji4z : a1 ≤ 32 → (IntKind.u32.wrap (a0 * 2 ^ a1.toNat)) = ji4 := shl_small hji4
    obtain ⟨ji5, hji5⟩ : ∃ j_ : Int, (wrap64 (32 - a1)) = j_ := ⟨_, rfl⟩
    replace H : (if 0 ≤ (ji5) then (some (Go.bits .or .u32 (ji4) (shr .u32 a0 (ji5)))) else (none)) = some r := by first | (rw [hji5] at H; exact H) | (simp only [hji5] at H ⊢; exact H)
    have hji5w : (IntKind.i64.wrap (32 - a1)) = ji5 := (i64_w _).trans hji5
    by_cases c6 : 0 ≤ (ji5)
    · rw [if_pos c6] at H
      have c6b0 := eq_true c6
      have c6b1 : decide (0 ≤ (ji5)) = true := decide_eq_true c6
      clear c6
      obtain ⟨ji7, hji7⟩ : ∃ j_ : Int, (shr .u32 a0 (ji5)) = j_ := ⟨_, rfl⟩
      replace H : (some (Go.bits .or .u32 (ji4) (ji7))) = some r := by first | (rw [hji7] at H; exact H) | (simp only [hji7] at H ⊢; exact H)
      have hji7_ : (a0 / 2 ^ min (ji5).toNat 32) = ji7 := hji7
      have hji7z : (ji5) ≤ 32 → (a0 / 2 ^ (ji5).toNat) = ji7 := shr_small hji7
      obtain rfl := Option.some.inj H
      go_enter Tryd.func37, Tryd.ntmps37
      go_wp2
      repeat (go_quiet (fail); try go_wp2)
      go_ret
      exact ⟨by first | rfl | (simp; done) | (simp only [← hji4, ← hji5, ← hji7] <;> (first | rfl | simp)) | (simp [*]; done), by repeat (first | exact Drawn0.refl _ | apply Drawn0.step)⟩
    · rw [if_neg c6] at H
      exact absurd H (by simp)
  · rw [if_neg c3] at H
    exact absurd H (by simp)


/-! ### spec_reduced: function 25 -/
def spec_reduced.f (a0 : Int) (a1 : Int) (a2 : Int) (a3 : Int) : Option (Int × Int) := some (Go.bits .xor .u64 (Go.bits .xor .u64 a2 (Go.bits .or .u64 (IntKind.u64.wrap ((Go.bits .and .u64 a0 4611686018427387903) * 2)) (a1 / 9223372036854775808))) (Go.bits .or .u64 (IntKind.u64.wrap ((Go.bits .and .u64 a0 4611686018427387903) * 4)) (a1 / 4611686018427387904)), Go.bits .xor .u64 (Go.bits .xor .u64 a3 (IntKind.u64.wrap (a1 * 2))) (IntKind.u64.wrap (a1 * 4)))
set_option maxHeartbeats 8000000 in
set_option maxRecDepth 100000 in
theorem spec_reduced.calls (a0 : Int) (a1 : Int) (a2 : Int) (a3 : Int) (r1 : Int) (r2 : Int) (w : World) (h : spec_reduced.f a0 a1 a2 a3 = some (r1, r2)) :
    Calls Tryd.prog 25 #[.int .u64 a0, .int .u64 a1, .int .u64 a2, .int .u64 a3] w fun e w' => e = .returned (.tuple #[.int .u64 r1, .int .u64 r2]) ∧ Drawn0 w w' := by
  have H : (some (Go.bits .xor .u64 (Go.bits .xor .u64 a2 (Go.bits .or .u64 (IntKind.u64.wrap ((Go.bits .and .u64 a0 4611686018427387903) * 2)) (a1 / 9223372036854775808))) (Go.bits .or .u64 (IntKind.u64.wrap ((Go.bits .and .u64 a0 4611686018427387903) * 4)) (a1 / 4611686018427387904)), Go.bits .xor .u64 (Go.bits .xor .u64 a3 (IntKind.u64.wrap (a1 * 2))) (IntKind.u64.wrap (a1 * 4)))) = some (r1, r2) := h
  clear h
  simp only [Option.some.injEq, Prod.mk.injEq] at H
  obtain ⟨rfl, rfl⟩ := H
  go_enter Tryd.func25, Tryd.ntmps25
  go_wp2
  go_ret2
  exact ⟨by first | rfl | (simp; done) | (simp [*]; done), by repeat (first | exact Drawn0.refl _ | apply Drawn0.step)⟩


/-! ### spec_HashRead: function 20 -/
def spec_HashRead.l0 : Nat → List Int → Int → Int → Option (Int)
  | 0, _, _, _ => none
  | k + 1, x0, x3, x4 => if x4 ≥ 0 then (if 0 ≤ x4 then (if x4 < (x0.length : Int) then (spec_HashRead.l0 k x0 (Go.bits .or .u64 (IntKind.u64.wrap (x3 * 256)) (IntKind.u64.wrap (rd x0 x4))) (wrap64 (x4 - 1))) else (none)) else (none)) else (some x3)
def spec_HashRead.f (k : Nat) (l0 : List Int) : Option (Int) := spec_HashRead.l0 k l0 0 7
theorem spec_HashRead.mono_l : ∀ k, (∀ y0 y1 y2, LeO (spec_HashRead.l0 k y0 y1 y2) (spec_HashRead.l0 (k + 1) y0 y1 y2))
  | 0 => fun _ _ _ r h => by simp [spec_HashRead.l0] at h
  | k + 1 => by
    have ih0 := spec_HashRead.mono_l k
    · intro y0 y1 y2
      unfold spec_HashRead.l0
      repeat' first
      | (with_reducible exact ih0 _ _ _)
      | (with_reducible exact LeO.refl _)
      | (with_reducible exact LeO.none _)
      | (with_reducible refine LeO.ite ?_ ?_)
      | (with_reducible refine LeO.bind ?_ (fun _ => ?_))
      | exact ih0 _ _ _
      | exact LeO.none _
      | refine LeO.ite ?_ ?_
      | refine LeO.bind ?_ (fun _ => ?_)
theorem spec_HashRead.mono : ∀ a0 k, LeO (spec_HashRead.f k a0) (spec_HashRead.f (k + 1) a0) := by
  intro a0 k
  have ih0 := spec_HashRead.mono_l k
  unfold spec_HashRead.f
  repeat' first
      | (with_reducible exact ih0 _ _ _)
      | (with_reducible exact LeO.refl _)
      | (with_reducible exact LeO.none _)
      | (with_reducible refine LeO.ite ?_ ?_)
      | (with_reducible refine LeO.bind ?_ (fun _ => ?_))
      | exact ih0 _ _ _
      | exact LeO.none _
      | refine LeO.ite ?_ ?_
      | refine LeO.bind ?_ (fun _ => ?_)
set_option maxHeartbeats 8000000 in
set_option maxRecDepth 100000 in
theorem spec_HashRead.calls (k : Nat) (A0 : Option Addr) (c0 : Nat) (l0 : List Int) (r : Int) (w : World) (hr0 : Kd.C (Kd.int .u8) w A0 l0.length l0) (hc0 : l0.length ≤ c0) (h : spec_HashRead.f k l0 = some r) :
    Calls Tryd.prog 20 #[.slice A0 l0.length c0] w fun e w' => e = .returned (.int .u64 r) ∧ Drawn0 w w' := by
  have HR0 := Aside0.mk hr0
  have HC0 := Aside0.mk hc0
  clear hr0 hc0
  have H : (spec_HashRead.l0 k l0 0 7) = some r := h
  clear h
  have H' := Aside0.mk H
  clear H
  go_enter Tryd.func20, Tryd.ntmps20
  go_wp2
  go_loopg [3, 4] k (fun kq v3 v4 w' => ∃ (x3_1 : Int) (x4_1 : Int), v3 = .int .u64 x3_1 ∧ v4 = .int .i64 x4_1 ∧ Aside0 (spec_HashRead.l0 kq l0 x3_1 x4_1 = some r) ∧ Aside0 (kq ≤ k) ∧ Drawn0 w w')
  case atStart => exact ⟨(0), (7), (by first | rfl | (simp; done) | (simp [*]; done)), (by first | rfl | (simp; done) | (simp [*]; done)), H', ⟨Nat.le_refl _⟩, by repeat (first | exact Drawn0.refl _ | apply Drawn0.step)⟩
  case round =>
    clear H'
    obtain ⟨x3_1, x4_1, rfl, rfl, HA, HK1, ⟨m1, rfl⟩⟩ := hrel
    cases gk with
    | zero => exact absurd HA.out (by simp [spec_HashRead.l0])
    | succ k1 =>
      have H := HA.out
      clear HA
      simp only [spec_HashRead.l0] at H
      by_cases c2 : x4_1 ≥ 0
      · rw [if_pos c2] at H
        have c2b0 : decide (0 ≤ x4_1) = true := decide_eq_true c2
        clear c2
        by_cases c3 : 0 ≤ x4_1
        · rw [if_pos c3] at H
          have c3b0 : decide (0 ≤ x4_1) = true := decide_eq_true c3
          clear c3
          by_cases c4 : x4_1 < (l0.length : Int)
          · rw [if_pos c4] at H
            have c4b0 : decide (x4_1 < (l0.length : Int)) = true := decide_eq_true c4
            clear c4
            have H' := Aside0.mk H
            clear H
            have p123 : 0 ≤ (x4_1 : Int) := of_decide_eq_true (by first | (with_reducible assumption) | assumption)
            have q123 : x4_1 < (l0.length : Int) := of_decide_eq_true (by first | (with_reducible assumption) | assumption)
            obtain ⟨ad123, e123, hx123_0⟩ := Kd.at_int HR0.out x4_1 p123 q123
            cases e123
            replace p123 := eq_true p123
            replace q123 := eq_true q123
            go_wp2
            go_roundg k1
            case measure => have := HK1.out; omega
            case rel => exact ⟨(Go.bits .or .u64 (IntKind.u64.wrap (x3_1 * 256)) (IntKind.u64.wrap (rd l0 x4_1))), (wrap64 (x4_1 - 1)), (by first | rfl | (simp; done) | (simp [*]; done)), (by first | rfl | (simp; done) | (simp [*]; done)), H', ⟨by have := HK1.out; omega⟩, by repeat (first | exact Drawn0.refl _ | apply Drawn0.step)⟩
          · rw [if_neg c4] at H
            exact absurd H (by simp)
        · rw [if_neg c3] at H
          exact absurd H (by simp)
      · rw [if_neg c2] at H
        have c2b0 : decide (0 ≤ x4_1) = false := decide_eq_false c2
        clear c2
        obtain rfl := Option.some.inj H
        go_wp2
        go_ret
        exact ⟨by first | rfl | (simp; done) | (simp [*]; done), by repeat (first | exact Drawn0.refl _ | apply Drawn0.step)⟩


/-! ### spec_HashWrite: function 24 -/
mutual
def spec_HashWrite.l0 : Nat → List Int → List Int → Int → Int → Option (List Int)
  | 0, _, _, _, _ => none
  | k + 1, x3, x6, x7, x8 => if x8 < x7 then (if 0 ≤ x8 then (if x8 < (x6.length : Int) then (spec_HashWrite.l1 k x3 (rd x6 x8) x6 x7 x8 0) else (none)) else (none)) else (some x3)
def spec_HashWrite.l1 : Nat → List Int → Int → List Int → Int → Int → Int → Option (List Int)
  | 0, _, _, _, _, _, _ => none
  | k + 1, x3, x5, x6, x7, x8, x12 => if x12 < 8 then (if x3.length < 140737488355328 then (spec_HashWrite.l1 k (x3 ++ [(x5) % 256]) (x5 / 256) x6 x7 x8 (wrap64 (x12 + 1))) else (none)) else (spec_HashWrite.l0 k x3 x6 x7 (wrap64 (x8 + 1)))
end
def spec_HashWrite.f (k : Nat) (l0 : List Int) : Option (List Int) := spec_HashWrite.l0 k ([] : List Int) l0 (l0.length : Int) 0
theorem spec_HashWrite.mono_l : ∀ k, (∀ y0 y1 y2 y3, LeO (spec_HashWrite.l0 k y0 y1 y2 y3) (spec_HashWrite.l0 (k + 1) y0 y1 y2 y3)) ∧ (∀ y0 y1 y2 y3 y4 y5, LeO (spec_HashWrite.l1 k y0 y1 y2 y3 y4 y5) (spec_HashWrite.l1 (k + 1) y0 y1 y2 y3 y4 y5))
  | 0 => ⟨fun _ _ _ _ r h => by simp [spec_HashWrite.l0] at h, fun _ _ _ _ _ _ r h => by simp [spec_HashWrite.l1] at h⟩
  | k + 1 => by
    obtain ⟨ih0, ih1⟩ := spec_HashWrite.mono_l k
    refine ⟨?_, ?_⟩
    · intro y0 y1 y2 y3
      unfold spec_HashWrite.l0
      repeat' first
      | (with_reducible exact ih0 _ _ _ _)
      | (with_reducible exact ih1 _ _ _ _ _ _)
      | (with_reducible exact LeO.refl _)
      | (with_reducible exact LeO.none _)
      | (with_reducible refine LeO.ite ?_ ?_)
      | (with_reducible refine LeO.bind ?_ (fun _ => ?_))
      | exact ih0 _ _ _ _
      | exact ih1 _ _ _ _ _ _
      | exact LeO.none _
      | refine LeO.ite ?_ ?_
      | refine LeO.bind ?_ (fun _ => ?_)
    · intro y0 y1 y2 y3 y4 y5
      unfold spec_HashWrite.l1
      repeat' first
      | (with_reducible exact ih0 _ _ _ _)
      | (with_reducible exact ih1 _ _ _ _ _ _)
      | (with_reducible exact LeO.refl _)
      | (with_reducible exact LeO.none _)
      | (with_reducible refine LeO.ite ?_ ?_)
      | (with_reducible refine LeO.bind ?_ (fun _ => ?_))
      | exact ih0 _ _ _ _
      | exact ih1 _ _ _ _ _ _
      | exact LeO.none _
      | refine LeO.ite ?_ ?_
      | refine LeO.bind ?_ (fun _ => ?_)
theorem spec_HashWrite.mono : ∀ a0 k, LeO (spec_HashWrite.f k a0) (spec_HashWrite.f (k + 1) a0) := by
  intro a0 k
  obtain ⟨ih0, ih1⟩ := spec_HashWrite.mono_l k
  unfold spec_HashWrite.f
  repeat' first
      | (with_reducible exact ih0 _ _ _ _)
      | (with_reducible exact ih1 _ _ _ _ _ _)
      | (with_reducible exact LeO.refl _)
      | (with_reducible exact LeO.none _)
      | (with_reducible refine LeO.ite ?_ ?_)
      | (with_reducible refine LeO.bind ?_ (fun _ => ?_))
      | exact ih0 _ _ _ _
      | exact ih1 _ _ _ _ _ _
      | exact LeO.none _
      | refine LeO.ite ?_ ?_
      | refine LeO.bind ?_ (fun _ => ?_)
set_option maxHeartbeats 8000000 in
set_option maxRecDepth 100000 in
theorem spec_HashWrite.calls (k : Nat) (A0 : Option Addr) (c0 : Nat) (l0 : List Int) (r : List Int) (w : World) (hr0 : Kd.C (Kd.int .u64) w A0 l0.length l0) (hc0 : l0.length ≤ c0) (h : spec_HashWrite.f k l0 = some r) :
    Calls Tryd.prog 24 #[.slice A0 l0.length c0] w fun e w' => ∃ v0_ : Value, e = .returned (v0_) ∧ Kd.R (Kd.int .u8) 5 w' w.heap.size (fun _ => True) v0_ r ∧ Below w.heap.size w w' := by
  have HR0 := Aside0.mk hr0
  have HC0 := Aside0.mk hc0
  clear hr0 hc0
  have HB := Aside0.mk (Below.refl w.heap.size w)
  have H : (spec_HashWrite.l0 k ([] : List Int) l0 (l0.length : Int) 0) = some r := h
  clear h
  have H' := Aside0.mk H
  clear H
  go_enter Tryd.func24, Tryd.ntmps24
  go_wp2
  go_loopg [3, 8] k (fun kq v3 v8 w' => ∃ (x3_1 : List Int) (x8_1 : Int), v8 = .int .i64 x8_1 ∧ Aside0 (spec_HashWrite.l0 kq x3_1 l0 (l0.length : Int) x8_1 = some r) ∧ Aside0 (kq ≤ k) ∧ Aside0 (Kd.R (Kd.int .u8) 5 w' w.heap.size (fun _ => True) v3 x3_1) ∧ Aside0 (Below w.heap.size w w'))
  case atStart => exact ⟨(([] : List Int)), (0), (by first | rfl | (simp; done) | (simp [*]; done)), H', ⟨Nat.le_refl _⟩, ⟨by first | exact Kd.R_nil _ _ _ _ _ | exact Kd.N_nil _ _ _ _ _ | exact Kd.V_nil _ _ _ _ _ | exact Kd.Q_nil _ _ _ _ _ | exact Kd.S_nil _ _ _ _ _⟩, ⟨by repeat (first | (with_reducible first | exact HB.out | apply below_alloc | apply pw_below_drewN | apply below_drew1) | exact HB.out)⟩⟩
  case round =>
    clear H'
    obtain ⟨x3_1, x8_1, rfl, HA, HK1, HO_3, HB⟩ := hrel
    cases gk with
    | zero => exact absurd HA.out (by simp [spec_HashWrite.l0])
    | succ k1 =>
      have H := HA.out
      clear HA
      simp only [spec_HashWrite.l0] at H
      by_cases c2 : x8_1 < (l0.length : Int)
      · rw [if_pos c2] at H
        have c2b0 : decide (x8_1 < (l0.length : Int)) = true := decide_eq_true c2
        clear c2
        by_cases c3 : 0 ≤ x8_1
        · rw [if_pos c3] at H
          have c3b0 : decide (0 ≤ x8_1) = true := decide_eq_true c3
          clear c3
          by_cases c4 : x8_1 < (l0.length : Int)
          · rw [if_pos c4] at H
            have c4b0 : decide (x8_1 < (l0.length : Int)) = true := decide_eq_true c4
            clear c4
            have H' := Aside0.mk H
            clear H
            have p124 : 0 ≤ (x8_1 : Int) := of_decide_eq_true (by first | (with_reducible assumption) | assumption)
            have q124 : x8_1 < (l0.length : Int) := of_decide_eq_true (by first | (with_reducible assumption) | assumption)
            obtain ⟨ad124, e124, hx124_0⟩ := Kd.at_int HR0.out x8_1 p124 q124
            cases e124
            replace hx124_0 := (HB.out.cell (World.block_lt_of_cell? w _ hx124_0)).trans hx124_0
            replace p124 := eq_true p124
            replace q124 := eq_true q124
            go_wp2
            go_loopg [3, 5, 12] k1 (fun kq v3 v5 v12 w' => ∃ (x3_2 : List Int) (x5_2 : Int) (x12_2 : Int), v5 = .int .u64 x5_2 ∧ v12 = .int .i64 x12_2 ∧ Aside0 (spec_HashWrite.l1 kq x3_2 x5_2 l0 (l0.length : Int) x8_1 x12_2 = some r) ∧ Aside0 (kq ≤ k1) ∧ Aside0 (Kd.R (Kd.int .u8) 5 w' w.heap.size (fun _ => True) v3 x3_2) ∧ Aside0 (Below w.heap.size w w'))
            case atStart => exact ⟨(x3_1), (rd l0 x8_1), (0), (by first | rfl | (simp; done) | (simp [*]; done)), (by first | rfl | (simp; done) | (simp [*]; done)), H', ⟨Nat.le_refl _⟩, ⟨by (with_reducible repeat (first | apply Kd.R_alloc | apply Kd.R_drewN | apply Kd.R_drew)); exact HO_3.out⟩, ⟨by repeat (first | (with_reducible first | exact HB.out | apply below_alloc | apply pw_below_drewN | apply below_drew1) | exact HB.out)⟩⟩
            case round =>
              clear H'
              try clear p1
              try clear q1
              try clear hx1
              try clear c2
              try clear c2b0
              try clear p2
              try clear c3
              try clear c3b0
              try clear c4
              try clear c4b0
              try clear hx124_0
              try clear p124
              try clear q124
              obtain ⟨x3_2, x5_2, x12_2, rfl, rfl, HA, HK2, HO_3, HB⟩ := hrel
              cases gk with
              | zero => exact absurd HA.out (by simp [spec_HashWrite.l1])
              | succ k2 =>
                have H := HA.out
                clear HA
                simp only [spec_HashWrite.l1] at H
                by_cases c5 : x12_2 < 8
                · rw [if_pos c5] at H
                  have c5b0 : decide (x12_2 < 8) = true := decide_eq_true c5
                  clear c5
                  by_cases c6 : x3_2.length < 140737488355328
                  · rw [if_pos c6] at H
                    have LMc6 := Aside0.mk c6
                    clear c6
                    obtain ⟨y125, hy125⟩ : ∃ y_ : List Int, y_ = (x3_2 ++ [(x5_2) % 256]) := ⟨_, rfl⟩
                    replace H : (spec_HashWrite.l1 k2 y125 (x5_2 / 256) l0 (l0.length : Int) x8_1 (wrap64 (x12_2 + 1))) = some r := by first | (rw [hy125]; with_reducible exact H) | (have H2_ := (Option.bind_some _ _).symm.trans H; rw [hy125]; with_reducible exact H2_) | (have H2_ := (Option.bind_some _ _).symm.trans H; with_reducible exact H2_) | with_reducible exact H | (rw [hy125]; exact H) | exact H
                    have Ny125 := Aside0.mk hy125
                    clear hy125
                    have H' := Aside0.mk H
                    clear H
                    go_wp2_with (first | ((with_reducible refine gate_builtin (b := .append) (xs := #[.tmp 14, .tmp 17]) rfl ?_); at_builtin; refine Kd.R_append (Kd.int .u8) (w0 := w) w.heap.size rfl (.tmp 14) (.tmp 17) 22 5 (.int .u8 0) 1 rfl Tryd.underlying22 info5 rfl (by decide) (by omega) u3 x3_2 ((x5_2) % 256) [.int .u8 ((x5_2) % 256)] (fun _ => True) (fun _ => False) rfl rfl ?aP (fun _ hk => hk.elim) ?aF ?aO ?aB ?aS ?aL ?_; (case aP => exact rfl); (case aB => exact (by repeat (first | (with_reducible first | exact HB.out | apply below_alloc | apply pw_below_drewN | apply below_drew1) | exact HB.out))); (case aF => exact (fun _ _ => trivial)); (case aO => exact (by (with_reducible repeat (first | apply Kd.R_alloc | apply Kd.R_drewN | apply Kd.R_drew)); exact HO_3.out)); (case aS => exact (below_size (by repeat (first | (with_reducible first | exact HB.out | apply below_alloc | apply pw_below_drewN | apply below_drew1) | exact HB.out)))); (case aL => have := LMc6.out; omega); intro v126 w7 ho hb hg hat; rw [← Ny125.out] at ho; have n0_ := Aside0.mk (hb); have n1_ := Aside0.mk (ho); clear HB; clear HO_3; have HB := n0_; have HO127 := n1_; clear n0_ n1_; clear ho hb hg hat))
                    go_roundg k2
                    case measure => have := HK1.out; have := HK2.out; omega
                    case rel => exact ⟨(y125), (x5_2 / 256), (wrap64 (x12_2 + 1)), (by first | rfl | (simp; done) | (simp [*]; done)), (by first | rfl | (simp; done) | (simp [*]; done)), H', ⟨by have := HK1.out; have := HK2.out; omega⟩, ⟨by (with_reducible repeat (first | apply Kd.R_alloc | apply Kd.R_drewN | apply Kd.R_drew)); exact HO127.out⟩, ⟨by repeat (first | (with_reducible first | exact HB.out | apply below_alloc | apply pw_below_drewN | apply below_drew1) | exact HB.out)⟩⟩
                  · rw [if_neg c6] at H
                    exact absurd H (by simp)
                · rw [if_neg c5] at H
                  have c5b0 : decide (x12_2 < 8) = false := decide_eq_false c5
                  clear c5
                  have H' := Aside0.mk H
                  clear H
                  go_wp2
                  go_roundg k2
                  case measure => have := HK1.out; have := HK2.out; omega
                  case rel => exact ⟨(x3_2), (wrap64 (x8_1 + 1)), (by first | rfl | (simp; done) | (simp [*]; done)), H', ⟨by have := HK1.out; have := HK2.out; omega⟩, ⟨by (with_reducible repeat (first | apply Kd.R_alloc | apply Kd.R_drewN | apply Kd.R_drew)); exact HO_3.out⟩, ⟨by repeat (first | (with_reducible first | exact HB.out | apply below_alloc | apply pw_below_drewN | apply below_drew1) | exact HB.out)⟩⟩
          · rw [if_neg c4] at H
            exact absurd H (by simp)
        · rw [if_neg c3] at H
          exact absurd H (by simp)
      · rw [if_neg c2] at H
        have c2b0 : decide (x8_1 < (l0.length : Int)) = false := decide_eq_false c2
        clear c2
        obtain rfl := Option.some.inj H
        go_wp2
        go_ret
        exact ⟨_, by first | rfl | (simp [errW_none, errW_some] <;> rfl) | (simp [*, errW_none, errW_some] <;> rfl), by (with_reducible repeat (first | apply Kd.R_alloc | apply Kd.R_drewN | apply Kd.R_drew)); exact HO_3.out, by repeat (first | (with_reducible first | exact HB.out | apply below_alloc | apply pw_below_drewN | apply below_drew1) | exact HB.out)⟩


/-! ### spec_SameBytes: function 12 -/
def spec_SameBytes.l0 : Nat → List Int → List Int → Int → Int → Option (Bool)
  | 0, _, _, _, _ => none
  | k + 1, x0, x1, x12, x13 => if x13 < x12 then (if 0 ≤ x13 then (if x13 < (x0.length : Int) then (if x13 < (x1.length : Int) then (if (rd x0 x13) = (rd x1 x13) then (spec_SameBytes.l0 k x0 x1 x12 (wrap64 (x13 + 1))) else (some false)) else (none)) else (none)) else (none)) else (some true)
def spec_SameBytes.f (k : Nat) (l0 : List Int) (l1 : List Int) : Option (Bool) := if (l0.length : Int) = (l1.length : Int) then (spec_SameBytes.l0 k l0 l1 (l0.length : Int) 0) else (some false)
theorem spec_SameBytes.mono_l : ∀ k, (∀ y0 y1 y2 y3, LeO (spec_SameBytes.l0 k y0 y1 y2 y3) (spec_SameBytes.l0 (k + 1) y0 y1 y2 y3))
  | 0 => fun _ _ _ _ r h => by simp [spec_SameBytes.l0] at h
  | k + 1 => by
    have ih0 := spec_SameBytes.mono_l k
    · intro y0 y1 y2 y3
      unfold spec_SameBytes.l0
      repeat' first
      | (with_reducible exact ih0 _ _ _ _)
      | (with_reducible exact LeO.refl _)
      | (with_reducible exact LeO.none _)
      | (with_reducible refine LeO.ite ?_ ?_)
      | (with_reducible refine LeO.bind ?_ (fun _ => ?_))
      | exact ih0 _ _ _ _
      | exact LeO.none _
      | refine LeO.ite ?_ ?_
      | refine LeO.bind ?_ (fun _ => ?_)
theorem spec_SameBytes.mono : ∀ a0 a1 k, LeO (spec_SameBytes.f k a0 a1) (spec_SameBytes.f (k + 1) a0 a1) := by
  intro a0 a1 k
  have ih0 := spec_SameBytes.mono_l k
  unfold spec_SameBytes.f
  repeat' first
      | (with_reducible exact ih0 _ _ _ _)
      | (with_reducible exact LeO.refl _)
      | (with_reducible exact LeO.none _)
      | (with_reducible refine LeO.ite ?_ ?_)
      | (with_reducible refine LeO.bind ?_ (fun _ => ?_))
      | exact ih0 _ _ _ _
      | exact LeO.none _
      | refine LeO.ite ?_ ?_
      | refine LeO.bind ?_ (fun _ => ?_)
set_option maxHeartbeats 8000000 in
set_option maxRecDepth 100000 in
theorem spec_SameBytes.calls (k : Nat) (A0 : Option Addr) (c0 : Nat) (l0 : List Int) (A1 : Option Addr) (c1 : Nat) (l1 : List Int) (r : Bool) (w : World) (hr0 : Kd.C (Kd.int .u8) w A0 l0.length l0) (hc0 : l0.length ≤ c0) (hr1 : Kd.C (Kd.int .u8) w A1 l1.length l1) (hc1 : l1.length ≤ c1) (h : spec_SameBytes.f k l0 l1 = some r) :
    Calls Tryd.prog 12 #[.slice A0 l0.length c0, .slice A1 l1.length c1] w fun e w' => e = .returned (.bool r) ∧ Drawn0 w w' := by
  have HR0 := Aside0.mk hr0
  have HC0 := Aside0.mk hc0
  clear hr0 hc0
  have HR1 := Aside0.mk hr1
  have HC1 := Aside0.mk hc1
  clear hr1 hc1
  have H : (if (l0.length : Int) = (l1.length : Int) then (spec_SameBytes.l0 k l0 l1 (l0.length : Int) 0) else (some false)) = some r := h
  clear h
  by_cases c3 : (l0.length : Int) = (l1.length : Int)
  · rw [if_pos c3] at H
    have c3b0 : ((l0.length : Int) == (l1.length : Int)) = true := beq_iff_eq.mpr c3
    have c3b1 : ((l0.length : Int) != (l1.length : Int)) = false := bne_eq_false_iff_eq.mpr c3
    have c3b2 : (l0.length == l1.length) = true := by first | simpa using c3 | (simp at c3 ⊢; omega)
    clear c3
    have H' := Aside0.mk H
    clear H
    go_enter Tryd.func12, Tryd.ntmps12
    go_wp2
    repeat (go_quiet (fail); try go_wp2)
    go_loopg [13] k (fun kq v13 w' => ∃ (x13_1 : Int), v13 = .int .i64 x13_1 ∧ Aside0 (spec_SameBytes.l0 kq l0 l1 (l0.length : Int) x13_1 = some r) ∧ Aside0 (kq ≤ k) ∧ Drawn0 w w')
    case atStart => exact ⟨(0), (by first | rfl | (simp; done) | (simp [*]; done)), H', ⟨Nat.le_refl _⟩, by repeat (first | exact Drawn0.refl _ | apply Drawn0.step)⟩
    case round =>
      clear H'
      try clear c1
      try clear p2
      try clear c3
      try clear c3b0
      try clear c3b1
      try clear c3b2
      obtain ⟨x13_1, rfl, HA, HK1, ⟨m1, rfl⟩⟩ := hrel
      cases gk with
      | zero => exact absurd HA.out (by simp [spec_SameBytes.l0])
      | succ k1 =>
        have H := HA.out
        clear HA
        simp only [spec_SameBytes.l0] at H
        by_cases c4 : x13_1 < (l0.length : Int)
        · rw [if_pos c4] at H
          have c4b0 : decide (x13_1 < (l0.length : Int)) = true := decide_eq_true c4
          clear c4
          by_cases c5 : 0 ≤ x13_1
          · rw [if_pos c5] at H
            have c5b0 : decide (0 ≤ x13_1) = true := decide_eq_true c5
            clear c5
            by_cases c6 : x13_1 < (l0.length : Int)
            · rw [if_pos c6] at H
              have c6b0 : decide (x13_1 < (l0.length : Int)) = true := decide_eq_true c6
              clear c6
              by_cases c7 : x13_1 < (l1.length : Int)
              · rw [if_pos c7] at H
                have c7b0 : decide (x13_1 < (l1.length : Int)) = true := decide_eq_true c7
                clear c7
                by_cases c8 : (rd l0 x13_1) = (rd l1 x13_1)
                · rw [if_pos c8] at H
                  have c8b0 : ((rd l0 x13_1) == (rd l1 x13_1)) = true := beq_iff_eq.mpr c8
                  have c8b1 : ((rd l0 x13_1) != (rd l1 x13_1)) = false := bne_eq_false_iff_eq.mpr c8
                  clear c8
                  have H' := Aside0.mk H
                  clear H
                  have p128 : 0 ≤ (x13_1 : Int) := of_decide_eq_true (by first | (with_reducible assumption) | assumption)
                  have q128 : x13_1 < (l0.length : Int) := of_decide_eq_true (by first | (with_reducible assumption) | assumption)
                  obtain ⟨ad128, e128, hx128_0⟩ := Kd.at_int HR0.out x13_1 p128 q128
                  cases e128
                  replace p128 := eq_true p128
                  replace q128 := eq_true q128
                  have p129 : 0 ≤ (x13_1 : Int) := of_decide_eq_true (by first | (with_reducible assumption) | assumption)
                  have q129 : x13_1 < (l1.length : Int) := of_decide_eq_true (by first | (with_reducible assumption) | assumption)
                  obtain ⟨ad129, e129, hx129_0⟩ := Kd.at_int HR1.out x13_1 p129 q129
                  cases e129
                  replace p129 := eq_true p129
                  replace q129 := eq_true q129
                  go_wp2
                  repeat (go_quiet (fail); try go_wp2)
                  go_roundg k1
                  case measure => have := HK1.out; omega
                  case rel => exact ⟨(wrap64 (x13_1 + 1)), (by first | rfl | (simp; done) | (simp [*]; done)), H', ⟨by have := HK1.out; omega⟩, by repeat (first | exact Drawn0.refl _ | apply Drawn0.step)⟩
                · rw [if_neg c8] at H
                  have c8b0 : ((rd l0 x13_1) == (rd l1 x13_1)) = false := beq_eq_false_iff_ne.mpr c8
                  have c8b1 : ((rd l0 x13_1) != (rd l1 x13_1)) = true := bne_iff_ne.mpr c8
                  obtain rfl := Option.some.inj H
                  have p128 : 0 ≤ (x13_1 : Int) := of_decide_eq_true (by first | (with_reducible assumption) | assumption)
                  have q128 : x13_1 < (l0.length : Int) := of_decide_eq_true (by first | (with_reducible assumption) | assumption)
                  obtain ⟨ad128, e128, hx128_0⟩ := Kd.at_int HR0.out x13_1 p128 q128
                  cases e128
                  replace p128 := eq_true p128
                  replace q128 := eq_true q128
                  have p129 : 0 ≤ (x13_1 : Int) := of_decide_eq_true (by first | (with_reducible assumption) | assumption)
                  have q129 : x13_1 < (l1.length : Int) := of_decide_eq_true (by first | (with_reducible assumption) | assumption)
                  obtain ⟨ad129, e129, hx129_0⟩ := Kd.at_int HR1.out x13_1 p129 q129
                  cases e129
                  replace p129 := eq_true p129
                  replace q129 := eq_true q129
                  go_wp2
                  repeat (go_quiet (fail); try go_wp2)
                  go_ret
                  exact ⟨by first | rfl | (simp; done) | (simp [*]; done), by repeat (first | exact Drawn0.refl _ | apply Drawn0.step)⟩
              · rw [if_neg c7] at H
                exact absurd H (by simp)
            · rw [if_neg c6] at H
              exact absurd H (by simp)
          · rw [if_neg c5] at H
            exact absurd H (by simp)
        · rw [if_neg c4] at H
          have c4b0 : decide (x13_1 < (l0.length : Int)) = false := decide_eq_false c4
          clear c4
          obtain rfl := Option.some.inj H
          go_wp2
          repeat (go_quiet (fail); try go_wp2)
          go_ret
          exact ⟨by first | rfl | (simp; done) | (simp [*]; done), by repeat (first | exact Drawn0.refl _ | apply Drawn0.step)⟩
  · rw [if_neg c3] at H
    have c3b0 : ((l0.length : Int) == (l1.length : Int)) = false := beq_eq_false_iff_ne.mpr c3
    have c3b1 : ((l0.length : Int) != (l1.length : Int)) = true := bne_iff_ne.mpr c3
    have c3b2 : (l0.length == l1.length) = false := by first | simpa using c3 | (simp at c3 ⊢; omega)
    obtain rfl := Option.some.inj H
    go_enter Tryd.func12, Tryd.ntmps12
    go_wp2
    repeat (go_quiet (fail); try go_wp2)
    go_ret
    exact ⟨by first | rfl | (simp; done) | (simp [*]; done), by repeat (first | exact Drawn0.refl _ | apply Drawn0.step)⟩

/-! ### laws_hashBrief: function 10 -/
def laws_hashBrief.f (l0 : List Int) : Option (Bool) := some (decide ((l0.length : Int) ≤ 8192))
set_option maxHeartbeats 8000000 in
set_option maxRecDepth 100000 in
theorem laws_hashBrief.calls (A0 : Option Addr) (c0 : Nat) (l0 : List Int) (r : Bool) (w : World) (hr0 : Kd.C (Kd.int .u8) w A0 l0.length l0) (hc0 : l0.length ≤ c0) (h : laws_hashBrief.f l0 = some r) :
    Calls Tryd.prog 10 #[.slice A0 l0.length c0] w fun e w' => e = .returned (.bool r) ∧ Drawn0 w w' := by
  have HR0 := Aside0.mk hr0
  have HC0 := Aside0.mk hc0
  clear hr0 hc0
  have H : (some (decide ((l0.length : Int) ≤ 8192))) = some r := h
  clear h
  obtain rfl := Option.some.inj H
  go_enter Tryd.func10, Tryd.ntmps10
  go_wp2
  go_ret
  exact ⟨by first | rfl | (simp; done) | (simp [*]; done), by repeat (first | exact Drawn0.refl _ | apply Drawn0.step)⟩

/-! ### laws_zzFits2: function 18 -/
def laws_zzFits2.f (a0_0 : Int) (l0_1 : List Int) (a0_2 : Int) : Option (Bool) := if (l0_1.length : Int) > 2147483647 then (some false) else (some true)
set_option maxHeartbeats 8000000 in
set_option maxRecDepth 100000 in
theorem laws_zzFits2.calls (a0_0 : Int) (A0_1 : Option Addr) (c0_1 : Nat) (l0_1 : List Int) (a0_2 : Int) (r : Bool) (w : World) (hr0_1 : Kd.C (Kd.int .u8) w A0_1 l0_1.length l0_1) (hc0_1 : l0_1.length ≤ c0_1) (h : laws_zzFits2.f a0_0 l0_1 a0_2 = some r) :
    Calls Tryd.prog 18 #[.agg #[.int .u8 a0_0, .slice A0_1 l0_1.length c0_1, .int .u64 a0_2]] w fun e w' => e = .returned (.bool r) ∧ Below w.heap.size w w' := by
  have hu33 := Tryd.underlying33
  have HR0_1 := Aside0.mk hr0_1
  have HC0_1 := Aside0.mk hc0_1
  clear hr0_1 hc0_1
  have HB := Aside0.mk (Below.refl w.heap.size w)
  have H : (if (l0_1.length : Int) > 2147483647 then (some false) else (some true)) = some r := h
  clear h
  by_cases c2 : (l0_1.length : Int) > 2147483647
  · rw [if_pos c2] at H
    have c2b0 : decide (2147483647 < (l0_1.length : Int)) = true := decide_eq_true c2
    have c2b1 : decide (2147483647 < l0_1.length) = true := decide_eq_true (by omega)
    clear c2
    obtain rfl := Option.some.inj H
    go_enter Tryd.func18, Tryd.ntmps18
    go_wp2_with (first | ((with_reducible refine gate_dst (N := 1) rfl ?_); refine box_event ?hg (N := 1) ?hd (cs := #[.int .u8 a0_0, .slice A0_1 l0_1.length c0_1, .int .u64 a0_2]) (t := 33) ?hr ?_; (case hd => rfl); (case hg => rfl); (case hr => first | (go_simp; done) | (go_simp; rfl)); intro gb130 hg w3 hbox hb; have n0_ := Aside0.mk (below_step (by repeat (first | (with_reducible first | exact HB.out | apply below_alloc | apply pw_below_drewN | apply below_drew1) | exact HB.out)) hb); have n1_ := Aside0.mk (hbox); have n2_ := Aside0.mk ((by rw [hg]; exact (below_size (by repeat (first | (with_reducible first | exact HB.out | apply below_alloc | apply pw_below_drewN | apply below_drew1) | exact HB.out))) : w.heap.size ≤ gb130)); have n3_ := Aside0.mk ((by rw [hg]; exact (below_size (by repeat (first | (with_reducible first | exact HB.out | apply below_alloc | apply pw_below_drewN | apply below_drew1) | exact HB.out))) : w.heap.size ≤ gb130)); clear HB; have HB := n0_; have BK130 := n1_; have GW130 := n2_; have GE130 := n3_; clear n0_ n1_ n2_ n3_; clear hb hbox hg; have hcz4_0 : w3.cell? ⟨gb130, 0, none⟩ = some (.int .u8 a0_0) := (blk_cell BK130.out 0).trans rfl; have hcz4_1 : w3.cell? ⟨gb130, 1, none⟩ = some (.slice A0_1 l0_1.length c0_1) := (blk_cell BK130.out 1).trans rfl; have hcz4_2 : w3.cell? ⟨gb130, 2, none⟩ = some (.int .u64 a0_2) := (blk_cell BK130.out 2).trans rfl; have hfz4_0 := blk_frozen BK130.out 0; have hfz4_1 := blk_frozen BK130.out 1; have hfz4_2 := blk_frozen BK130.out 2))
    go_ret
    exact ⟨by first | rfl | (simp [errW_none, errW_some] <;> rfl) | (simp [*, errW_none, errW_some] <;> rfl), by repeat (first | (with_reducible first | exact HB.out | apply below_alloc | apply pw_below_drewN | apply below_drew1 | refine below_set ?_ GE130.out) | exact HB.out)⟩
  · rw [if_neg c2] at H
    have c2b0 : decide (2147483647 < (l0_1.length : Int)) = false := decide_eq_false c2
    have c2b1 : decide (2147483647 < l0_1.length) = false := decide_eq_false (by omega)
    clear c2
    obtain rfl := Option.some.inj H
    go_enter Tryd.func18, Tryd.ntmps18
    go_wp2_with (first | ((with_reducible refine gate_dst (N := 1) rfl ?_); refine box_event ?hg (N := 1) ?hd (cs := #[.int .u8 a0_0, .slice A0_1 l0_1.length c0_1, .int .u64 a0_2]) (t := 33) ?hr ?_; (case hd => rfl); (case hg => rfl); (case hr => first | (go_simp; done) | (go_simp; rfl)); intro gb130 hg w5 hbox hb; have n0_ := Aside0.mk (below_step (by repeat (first | (with_reducible first | exact HB.out | apply below_alloc | apply pw_below_drewN | apply below_drew1) | exact HB.out)) hb); have n1_ := Aside0.mk (hbox); have n2_ := Aside0.mk ((by rw [hg]; exact (below_size (by repeat (first | (with_reducible first | exact HB.out | apply below_alloc | apply pw_below_drewN | apply below_drew1) | exact HB.out))) : w.heap.size ≤ gb130)); have n3_ := Aside0.mk ((by rw [hg]; exact (below_size (by repeat (first | (with_reducible first | exact HB.out | apply below_alloc | apply pw_below_drewN | apply below_drew1) | exact HB.out))) : w.heap.size ≤ gb130)); clear HB; have HB := n0_; have BK130 := n1_; have GW130 := n2_; have GE130 := n3_; clear n0_ n1_ n2_ n3_; clear hb hbox hg; have hcz6_0 : w5.cell? ⟨gb130, 0, none⟩ = some (.int .u8 a0_0) := (blk_cell BK130.out 0).trans rfl; have hcz6_1 : w5.cell? ⟨gb130, 1, none⟩ = some (.slice A0_1 l0_1.length c0_1) := (blk_cell BK130.out 1).trans rfl; have hcz6_2 : w5.cell? ⟨gb130, 2, none⟩ = some (.int .u64 a0_2) := (blk_cell BK130.out 2).trans rfl; have hfz6_0 := blk_frozen BK130.out 0; have hfz6_1 := blk_frozen BK130.out 1; have hfz6_2 := blk_frozen BK130.out 2))
    go_ret
    exact ⟨by first | rfl | (simp [errW_none, errW_some] <;> rfl) | (simp [*, errW_none, errW_some] <;> rfl), by repeat (first | (with_reducible first | exact HB.out | apply below_alloc | apply pw_below_drewN | apply below_drew1 | refine below_set ?_ GE130.out) | exact HB.out)⟩


end Go.Proofs.YtnehminojlocoaaDoor.PAll
