/- Printed by the kit's print.py, called for several laws at once: functions as plain Lean, and the walks' contracts. -/
import Derived.Test.YtiifnofghicnaaaBAllx0
namespace Go.Proofs.Ytiifnofghicnaaa.BAll
open Go.RowKit Go.Proofs.YtiifnofghicnaaaW.PrintWords Go.Proofs.YtiifnofghicnaaaW.PrintLast Go.Proofs.YtiifnofghicnaaaW.PrintMore
attribute [local go_sem] max2_int min2_int max_two min_two max_three min_three max_four min_four   -- for this text's walks alone
set_option linter.unusedVariables false
set_option linter.unusedSimpArgs false
/-! ### spec_trim: function 89 -/
def spec_trim.l0 : Nat → List Int → Option (List Int)
  | 0, _ => none
  | k + 1, x0 => if (x0.length : Int) > 0 then (if 0 ≤ (wrap64 ((x0.length : Int) - 1)) then (if (wrap64 ((x0.length : Int) - 1)) < (x0.length : Int) then (if (rd x0 (wrap64 ((x0.length : Int) - 1))) = 0 then (if (wrap64 ((x0.length : Int) - 1)) ≤ (x0.length : Int) then (spec_trim.l0 k (x0.take ((wrap64 ((x0.length : Int) - 1)) : Int).toNat)) else (none)) else (some x0)) else (none)) else (none)) else (some x0)
def spec_trim.f (k : Nat) (l0 : List Int) : Option (List Int) := spec_trim.l0 k l0
theorem spec_trim.mono_l : ∀ k, (∀ y0, LeO (spec_trim.l0 k y0) (spec_trim.l0 (k + 1) y0))
  | 0 => fun _ r h => by simp [spec_trim.l0] at h
  | k + 1 => by
    have ih0 := spec_trim.mono_l k
    · intro y0
      unfold spec_trim.l0
      repeat' first
      | (with_reducible exact ih0 _)
      | (with_reducible exact LeO.refl _)
      | (with_reducible exact LeO.none _)
      | (with_reducible refine LeO.ite ?_ ?_)
      | (with_reducible refine LeO.bind ?_ (fun _ => ?_))
      | exact ih0 _
      | exact LeO.none _
      | refine LeO.ite ?_ ?_
      | refine LeO.bind ?_ (fun _ => ?_)
theorem spec_trim.mono : ∀ a0 k, LeO (spec_trim.f k a0) (spec_trim.f (k + 1) a0) := by
  intro a0 k
  have ih0 := spec_trim.mono_l k
  unfold spec_trim.f
  repeat' first
      | (with_reducible exact ih0 _)
      | (with_reducible exact LeO.refl _)
      | (with_reducible exact LeO.none _)
      | (with_reducible refine LeO.ite ?_ ?_)
      | (with_reducible refine LeO.bind ?_ (fun _ => ?_))
      | exact ih0 _
      | exact LeO.none _
      | refine LeO.ite ?_ ?_
      | refine LeO.bind ?_ (fun _ => ?_)
set_option maxHeartbeats 8000000 in
set_option maxRecDepth 100000 in
theorem spec_trim.calls (k : Nat) (P0_ : Nat → Prop) (A0 : Option Addr) (c0 : Nat) (l0 : List Int) (r : List Int) (w : World) (hs0 : Kd.V (Kd.int .i64) 3 w w.heap.size (fun k_ => P0_ k_) (.slice A0 l0.length c0) l0) (h : spec_trim.f k l0 = some r) :
    Calls Try.prog 89 #[.slice A0 l0.length c0] w fun e w' => ∃ v0_ : Value, e = .returned (v0_) ∧ Kd.V (Kd.int .i64) 3 w' w.heap.size (fun k_ => (P0_ k_ ∨ w.heap.size ≤ k_)) v0_ r ∧ Below w.heap.size w w' := by
  have HO0 := Aside0.mk (show Kd.V (Kd.int .i64) 3 w w.heap.size (fun k_ => (P0_ k_ ∨ w.heap.size ≤ k_)) (.slice A0 l0.length c0) l0 from Kd.V_mono hs0 (fun k_ hk => .inl hk))
  have HB := Aside0.mk (Below.refl w.heap.size w)
  have H : (spec_trim.l0 k l0) = some r := h
  clear h
  have H' := Aside0.mk H
  clear H
  go_enter Try.func89, Try.ntmps89
  go_wp2
  go_loopg [0] k (fun kq v0 w' => ∃ (x0_1 : List Int), Aside0 (spec_trim.l0 kq x0_1 = some r) ∧ Aside0 (kq ≤ k) ∧ Aside0 (Kd.V (Kd.int .i64) 3 w' w.heap.size (fun k_ => (P0_ k_ ∨ w.heap.size ≤ k_)) v0 x0_1) ∧ Aside0 (Below w.heap.size w w'))
  case atStart => exact ⟨(l0), H', ⟨Nat.le_refl _⟩, ⟨by (with_reducible repeat (first | apply Kd.V_alloc | apply Kd.V_drewN | apply Kd.V_drew)); exact HO0.out⟩, ⟨by repeat (first | (with_reducible first | exact HB.out | apply below_alloc | apply pw_below_drewN | apply below_drew1) | exact HB.out)⟩⟩
  case round =>
    clear H'
    obtain ⟨x0_1, HA, HK1, HO_0, HB⟩ := hrel
    cases gk with
    | zero => exact absurd HA.out (by simp [spec_trim.l0])
    | succ k1 =>
      have H := HA.out
      clear HA
      simp only [spec_trim.l0] at H
      by_cases c2 : (x0_1.length : Int) > 0
      · rw [if_pos c2] at H
        have c2b0 : decide (0 < (x0_1.length : Int)) = true := decide_eq_true c2
        have c2b1 : decide (0 < x0_1.length) = true := decide_eq_true (by omega)
        clear c2
        obtain ⟨ji3, hji3⟩ : ∃ j_ : Int, (wrap64 ((x0_1.length : Int) - 1)) = j_ := ⟨_, rfl⟩
        replace H : (if 0 ≤ (ji3) then (if (ji3) < (x0_1.length : Int) then (if (rd x0_1 (ji3)) = 0 then (if (ji3) ≤ (x0_1.length : Int) then (spec_trim.l0 k1 (x0_1.take ((ji3) : Int).toNat)) else (none)) else (some x0_1)) else (none)) else (none)) = some r := by first | (rw [hji3] at H; exact H) | (simp only [hji3] at H ⊢; exact H)
        have hji3w : (IntKind.i64.wrap ((x0_1.length : Int) - 1)) = ji3 := (i64_w _).trans hji3
        by_cases c4 : 0 ≤ (ji3)
        · rw [if_pos c4] at H
          have c4b0 : decide (0 ≤ (ji3)) = true := decide_eq_true c4
          clear c4
          by_cases c5 : (ji3) < (x0_1.length : Int)
          · rw [if_pos c5] at H
            have c5b0 : decide ((ji3) < (x0_1.length : Int)) = true := decide_eq_true c5
            clear c5
            by_cases c6 : (rd x0_1 (ji3)) = 0
            · rw [if_pos c6] at H
              have c6b0 : ((rd x0_1 (ji3)) == 0) = true := beq_iff_eq.mpr c6
              have c6b1 : ((rd x0_1 (ji3)) != 0) = false := bne_eq_false_iff_eq.mpr c6
              clear c6
              have c7b0 := eq_true (of_decide_eq_true (by first | (with_reducible assumption) | assumption) : 0 ≤ (ji3))
              by_cases c8 : (ji3) ≤ (x0_1.length : Int)
              · rw [if_pos c8] at H
                have c8b0 := eq_true c8
                have c8b1 : decide ((ji3) ≤ (x0_1.length : Int)) = true := decide_eq_true c8
                clear c8
                obtain ⟨y102, hy102⟩ : ∃ y_ : List Int, y_ = (x0_1.take ((ji3) : Int).toNat) := ⟨_, rfl⟩
                replace H : (spec_trim.l0 k1 y102) = some r := by first | (rw [hy102]; with_reducible exact H) | (have H2_ := (Option.bind_some _ _).symm.trans H; rw [hy102]; with_reducible exact H2_) | (have H2_ := (Option.bind_some _ _).symm.trans H; with_reducible exact H2_) | with_reducible exact H | (rw [hy102]; exact H) | exact H
                have Ny102 := Aside0.mk hy102
                clear hy102
                have H' := Aside0.mk H
                clear H
                obtain ⟨Ao9, co9, eo9⟩ := Kd.V_slice HO_0.out
                subst eo9
                have p101 : 0 ≤ ((ji3) : Int) := of_decide_eq_true (by first | (with_reducible assumption) | assumption)
                have q101 : (ji3) < (x0_1.length : Int) := of_decide_eq_true (by first | (with_reducible assumption) | assumption)
                obtain ⟨ad101, e101, hx101_0⟩ := Kd.at_int (Kd.V_reads' HO_0.out).2.2 (ji3) p101 q101
                cases e101
                replace p101 := eq_true p101
                replace q101 := eq_true q101
                have q10 : ((ji3) : Int) ≤ ((x0_1.length : Int) : Int) := of_decide_eq_true (by first | (with_reducible assumption) | assumption)
                obtain ⟨i010, hi010, _, hsz10, _⟩ := info_parts info3
                have hroom10 : x0_1.length ≤ co9 := (Kd.V_reads' HO_0.out).2.1
                have hC10 : Kd.F (Kd.int .i64) _ _ (some ad101) x0_1.length x0_1 := (Kd.V_at (base := w.heap.size) HO_0.out).2.2
                have hcut10 := cut_to (P := Try.prog) 27 3 .i64 Try.underlying27 hi010 (some ad101) x0_1.length co9 (ji3) (of_decide_eq_true (by first | (with_reducible assumption) | assumption)) q10 hroom10
                have hr10 := Kd.F_take (m := ((ji3) : Int).toNat) hC10 (by omega)
                have hy10 : y102.length = ((ji3) : Int).toNat := (by rw [Ny102.out, List.length_take]; omega)
                rw [← Ny102.out] at hr10
                rw [← hy10] at hcut10
                have HO106 := Aside0.mk (show Kd.V (Kd.int .i64) 3 _ w.heap.size _ (.slice (some ad101) y102.length co9) y102 from Kd.V_mk (by omega) hr10)
                have HC106 := Aside0.mk (show y102.length ≤ co9 from by omega)
                clear hr10 hC10 hroom10 hi010 hsz10
                have KY10 := Aside0.mk hy10
                clear hy10
                replace q10 := eq_true q10
                go_wp2
                go_roundg k1
                case measure => have := HK1.out; omega
                case rel => exact ⟨(y102), H', ⟨by have := HK1.out; omega⟩, ⟨by (with_reducible repeat (first | apply Kd.V_alloc | apply Kd.V_drewN | apply Kd.V_drew)); exact HO106.out⟩, ⟨by repeat (first | (with_reducible first | exact HB.out | apply below_alloc | apply pw_below_drewN | apply below_drew1) | exact HB.out)⟩⟩
              · rw [if_neg c8] at H
                exact absurd H (by simp)
            · rw [if_neg c6] at H
              have c6b0 : ((rd x0_1 (ji3)) == 0) = false := beq_eq_false_iff_ne.mpr c6
              have c6b1 : ((rd x0_1 (ji3)) != 0) = true := bne_iff_ne.mpr c6
              obtain rfl := Option.some.inj H
              obtain ⟨Ao11, co11, eo11⟩ := Kd.V_slice HO_0.out
              subst eo11
              have p101 : 0 ≤ ((ji3) : Int) := of_decide_eq_true (by first | (with_reducible assumption) | assumption)
              have q101 : (ji3) < (x0_1.length : Int) := of_decide_eq_true (by first | (with_reducible assumption) | assumption)
              obtain ⟨ad101, e101, hx101_0⟩ := Kd.at_int (Kd.V_reads' HO_0.out).2.2 (ji3) p101 q101
              cases e101
              replace p101 := eq_true p101
              replace q101 := eq_true q101
              go_wp2
              go_ret
              exact ⟨_, by first | rfl | (simp [errW_none, errW_some] <;> rfl) | (simp only [← hji3]; first | rfl | (simp [errW_none, errW_some] <;> rfl)) | (simp [*, errW_none, errW_some] <;> rfl), by (with_reducible repeat (first | apply Kd.V_alloc | apply Kd.V_drewN | apply Kd.V_drew)); exact HO_0.out, by repeat (first | (with_reducible first | exact HB.out | apply below_alloc | apply pw_below_drewN | apply below_drew1) | exact HB.out)⟩
          · rw [if_neg c5] at H
            exact absurd H (by simp)
        · rw [if_neg c4] at H
          exact absurd H (by simp)
      · rw [if_neg c2] at H
        have c2b0 : decide (0 < (x0_1.length : Int)) = false := decide_eq_false c2
        have c2b1 : decide (0 < x0_1.length) = false := decide_eq_false (by omega)
        clear c2
        obtain rfl := Option.some.inj H
        obtain ⟨Ao12, co12, eo12⟩ := Kd.V_slice HO_0.out
        subst eo12
        go_wp2
        go_ret
        exact ⟨_, by first | rfl | (simp [errW_none, errW_some] <;> rfl) | (simp [*, errW_none, errW_some] <;> rfl), by (with_reducible repeat (first | apply Kd.V_alloc | apply Kd.V_drewN | apply Kd.V_drew)); exact HO_0.out, by repeat (first | (with_reducible first | exact HB.out | apply below_alloc | apply pw_below_drewN | apply below_drew1) | exact HB.out)⟩
/-! ### spec_OfBits: function 39 -/
/-- A block of whole numbers reads as a row of them. -/
theorem row_of_block {W : World} {g t : Nat} {k : IntKind} {xs : List Int} (h : W.heap[g]? = some (.cells (xs.map (Value.int k)).toArray t (0, 0))) (hm : xs.length ≤ 9223372036854775807) :
    (Kd.int k).C W (some ⟨g, 0, none⟩) xs.length xs := by
  refine ⟨rfl, hm, fun _ => ⟨_, rfl, fun j p hj => ⟨[.int k p], rfl, rfl, fun i u hu => ?_⟩⟩⟩
  match i, hu with
  | 0, hu =>
    obtain rfl : Value.int k p = u := by simpa using hu
    have e : (Addr.add ⟨g, 0, none⟩ (j * (Kd.int k).sz + 0)) = ⟨g, j, none⟩ := by
      simp [Kd.int, Kd.scalar, Addr.add]
      rintro rfl
      rfl
    rw [e, blk_cell h]
    simp [hj]
theorem row_V {W : World} {g t base : Nat} {k : IntKind} {xs : List Int} (h : W.heap[g]? = some (.cells (xs.map (Value.int k)).toArray t (0, 0))) (hm : xs.length ≤ 9223372036854775807) :
    Kd.V (Kd.int k) t W base (fun q => q = g) (.slice (some ⟨g, 0, none⟩) xs.length xs.length) xs :=
  Kd.V_mk (Nat.le_refl _) (fun W' hW => row_of_block ((hW g rfl (blk_lt h)).trans h) hm)
theorem i64_or_bit (d e : Nat) (he : e < 16) (hd : d < 2 ^ e) : Go.bits .or .i64 (d : Int) (wrap64 (2 ^ e)) = ((d + 2 ^ e : Nat) : Int) := by
  have h2 : (2 : Nat) ^ e ≤ 2 ^ 15 := Nat.pow_le_pow_right (by decide) (by omega)
  have h3 : wrap64 (2 ^ e) = ((2 ^ e : Nat) : Int) := by
    have : ((2 : Int) ^ e) = ((2 ^ e : Nat) : Int) := by simp
    rw [this]
    unfold wrap64
    omega
  rw [h3, (bits_nat .i64 16 (by decide) (fun n h0 h1 => by rw [IntKind.wrap_i64]; omega) d (2 ^ e) (by omega) (by omega)).2, Dig.or_add hd]
theorem cells_step (b : Nat → Bool) (k : Nat) (hk : k < 128) :
    (((Dig.digs 9 (Dig.ofb b k)).map (Value.int .i64)).toArray).setIfInBounds (k / 16) (.int .i64 (Go.bits .or .i64 ((Dig.ofb b k / 65536 ^ (k / 16) % 65536 : Nat) : Int) (wrap64 (2 ^ (k % 16))))) =
      ((Dig.digs 9 (Dig.ofb b k + 2 ^ k)).map (Value.int .i64)).toArray := by
  have hm := Dig.ofb_lt b k
  have hd : Dig.ofb b k / 65536 ^ (k / 16) % 65536 < 2 ^ (k % 16) := by
    refine Nat.lt_of_le_of_lt (Nat.mod_le _ _) ?_
    apply Nat.div_lt_of_lt_mul
    rw [Dig.p16, ← Nat.pow_add, show 16 * (k / 16) + k % 16 = k by omega]
    exact hm
  rw [i64_or_bit _ _ (by omega) hd, List.setIfInBounds_toArray, ← Dig.digs_set 9 _ _ hm (by omega), List.map_set]
theorem digs9_zero : Dig.digs 9 0 = [0, 0, 0, 0, 0, 0, 0, 0, 0] := by decide
set_option maxHeartbeats 2000000 in
set_option maxRecDepth 100000 in
/-- OfBits of 128 bits, by whatever function of one number that tells the bits b and leaves memory alone. -/
theorem spec_OfBits.calls (w : World) (fid : Nat) (caps : Array Value) (b : Nat → Bool)
    (hcf : ∀ (args : Array Value) (w : World), (callFunc fid args).run Try.prog w = .ok (.enter fid args) w)
    (hcl : Hid (∀ (i : Nat) (W : World), i < 128 → Below w.heap.size w W → Calls Try.prog fid (#[.int .i64 i] ++ caps) W (fun e W' => e = .returned (.bool (b i)) ∧ Below W.heap.size W W')))
    (k : Nat) (r : List Int) (hr : spec_trim.f k (Dig.digs 9 (Dig.ofb b 128)) = some r) :
    Calls Try.prog 39 #[.int .i64 128, .func (.func fid) #[] caps] w fun e w' => ∃ v0_ : Value, e = .returned (v0_) ∧ Kd.V (Kd.int .i64) 3 w' w.heap.size (fun k_ => (w.heap.size ≤ k_)) v0_ r ∧ Below w.heap.size w w' := by
  have hmk : ∀ w, (Instr.makeSlice 27 (.int .i64 9) (.int .i64 9)).run Try.prog w = .ok (.slice (some ⟨w.heap.size, 0, none⟩) 9 9) (w.alloc (.cells #[.int .i64 0,.int .i64 0,.int .i64 0,.int .i64 0,.int .i64 0,.int .i64 0,.int .i64 0,.int .i64 0,.int .i64 0] 3)) := fun _ => by kernel_rfl
  have HR := Lib.hid hr
  clear hr
  go_enter Try.func39, Try.ntmps39
  go_wp2_with fail
  go_loopw [12] (fun v wr => ∃ k : Nat, k ≤ 128 ∧ v = .int .i64 k ∧ wr.heap[w.heap.size]? = some (.cells ((Dig.digs 9 (Dig.ofb b k)).map (Value.int .i64)).toArray 3 (0,0)) ∧ Below w.heap.size w wr) (fun i _ => 128 - (intOf i).toNat)
  case atStart => exact ⟨0, by omega, rfl, by rw [Dig.ofb, digs9_zero]; exact (MapKept.heap_alloc w _).1, (Below.refl _ _).alloc (Nat.le_refl _) _⟩
  case round =>
    obtain ⟨k, hk, rfl, hblk, hb⟩ := hrel
    have hlt := blk_lt hblk
    by_cases hlt : k < 128
    · go_wp2_with fail
      refine (hcl.out k _ hlt hb).mono ?_
      rintro e w1 ⟨rfl, hb1⟩
      have hblk1 := (hb1.block _ (blk_lt hblk)).trans hblk
      cases hbk : b k
      · go_wp2
        go_roundw
        case rel => exact ⟨k + 1, by omega, by go_num, by rw [Dig.ofb, hbk]; exact hblk1, hb.trans (hb1.mono (by have := blk_lt hblk; omega))⟩
        case measure => simp [intOf]; omega
      · have hcell : w1.cell? ⟨w.heap.size, k / 16, none⟩ = some (.int .i64 ((Dig.ofb b k / 65536 ^ (k / 16) % 65536 : Nat) : Int)) := by
          rw [blk_cell hblk1]
          simp [Dig.digs_get 9 (Dig.ofb b k) (k / 16) (by omega)]
        have hfr : w1.frozen? ⟨w.heap.size, k / 16, none⟩ = false := blk_frozen hblk1 _
        obtain ⟨dd, hdd⟩ : ∃ dd : Nat, dd = Dig.ofb b k / 65536 ^ (k / 16) % 65536 := ⟨_, rfl⟩
        rw [← hdd] at hcell
        have HDD := Lib.hid hdd
        have HB := Lib.hid hblk1
        clear hdd hblk1 hblk
        go_wp2
        go_region
        go_wp2
        go_roundw
        case rel =>
          refine ⟨k + 1, by omega, by go_num, ?_, (hb.trans (hb1.mono (by have := hb.size; omega))).trans (((Below.refl w.heap.size w1).setCell (p := ⟨w.heap.size, k / 16, none⟩) (Nat.le_refl _) _).drew)⟩
          have h2 := blk_set HB.out (k / 16) (.int .i64 (Go.bits .or .i64 (dd : Int) (wrap64 (2 ^ (k % 16)))))
          rw [HDD.out, cells_step b k hlt] at h2
          rw [HDD.out]
          show _ = some (Obj.cells ((Dig.digs 9 (Dig.ofb b k + if b k = true then 2 ^ k else 0)).map (Value.int .i64)).toArray _ _)
          rw [hbk]
          exact h2
        case measure => simp [intOf]; omega
    · obtain rfl : k = 128 := by omega
      have hV := row_V (base := wr.heap.size) hblk (by rw [Dig.digs_len]; decide)
      rw [Dig.digs_len] at hV
      have hV' : Kd.V (Kd.int .i64) 3 wr wr.heap.size (fun q => q = w.heap.size) (.slice (some ⟨w.heap.size, 0, none⟩) (Dig.digs 9 (Dig.ofb b 128)).length 9) (Dig.digs 9 (Dig.ofb b 128)) := by rw [Dig.digs_len]; exact hV
      have hT := spec_trim.calls _ _ _ 9 _ _ wr hV' HR.out
      rw [Dig.digs_len] at hT
      have HT := Lib.hid hT
      clear hT hV hV' hblk
      go_wp2_with fail
      refine (HT.out).mono ?_
      rintro e w1 ⟨v0, rfl, hv, hb1⟩
      go_wp2
      go_ret
      exact ⟨_, rfl, Kd.V_mono hv (fun q hq => by rcases hq with rfl | hq; exact Nat.le_refl _; have := hb.size; omega), hb.trans (hb1.mono hb.size)⟩
/-! ### spec_Whole: function 78 -/
theorem wrap64_small {n : Int} (h0 : -9223372036854775808 ≤ n) (h1 : n < 9223372036854775808) : wrap64 n = n := by unfold wrap64; omega
/-- Noughts at the end are struck. -/
theorem trim_digs (j : Nat) : ∀ (m k : Nat), m < 65536 ^ j → j < 4611686018427387904 → j < k → spec_trim.f k (Dig.digs j m) = some (Dig.dg m) := by
  unfold spec_trim.f
  induction j with
  | zero =>
    intro m k hm _ hk
    obtain ⟨k, rfl⟩ : ∃ q, k = q + 1 := ⟨k - 1, by omega⟩
    obtain rfl : m = 0 := by simpa using hm
    simp [spec_trim.l0, Dig.digs_zero, Dig.dg_zero]
  | succ j ih =>
    intro m k hm hj hk
    obtain ⟨k, rfl⟩ : ∃ q, k = q + 1 := ⟨k - 1, by omega⟩
    have hl : ((Dig.digs (j + 1) m).length : Int) = (j : Int) + 1 := by rw [Dig.digs_len]; omega
    have hw : wrap64 ((j : Int) + 1 - 1) = (j : Int) := by unfold wrap64; omega
    simp only [spec_trim.l0, hl, hw]
    rw [if_pos (by omega), if_pos (by omega), if_pos (by omega)]
    have hrd : rd (Dig.digs (j + 1) m) (j : Int) = ((m / 65536 ^ j % 65536 : Nat) : Int) := by
      unfold rd
      rw [Int.toNat_natCast, Dig.digs_getD, if_pos (by omega)]
    rw [hrd]
    have hq : m / 65536 ^ j < 65536 := Nat.div_lt_of_lt_mul (by rw [← Nat.pow_succ]; exact hm)
    by_cases h0 : m < 65536 ^ j
    · rw [if_pos (by rw [Nat.div_eq_of_lt h0]; rfl), if_pos (by omega), Int.toNat_natCast, Dig.digs_take _ _ _ (by omega)]
      exact ih m k h0 (by omega) (by omega)
    · have hp : 0 < 65536 ^ j := Nat.pow_pos (by decide)
      have h1 : 1 ≤ m / 65536 ^ j := (Nat.le_div_iff_mul_le hp).2 (by omega)
      rw [if_neg (by omega)]
      unfold Dig.dg
      have : Dig.nd m = j + 1 := by
        have a := Dig.nd_le hm
        have b : ¬ Dig.nd m ≤ j := fun hle => h0 (Nat.lt_of_lt_of_le (Dig.lt_nd m) (Nat.pow_le_pow_right (by decide) hle))
        omega
      rw [this]
theorem u64_bit (n i : Nat) (hn : n < 18446744073709551616) : (Go.bits .and .u64 ((n : Int) / 2 ^ i) 1 == 1) = n.testBit i := by
  have h1 : (n : Int) / 2 ^ i = ((n / 2 ^ i : Nat) : Int) := by simp
  have h2 : n / 2 ^ i < 18446744073709551616 := Nat.lt_of_le_of_lt (Nat.div_le_self _ _) hn
  have h3 := u64_and_nat (n / 2 ^ i) 1 h2 (by decide)
  rw [h1, show (1 : Int) = ((1 : Nat) : Int) from rfl, h3, Nat.and_one_is_mod, Nat.testBit_eq_decide_div_mod_eq]
  rw [Bool.eq_iff_iff]
  simp
  omega
set_option maxHeartbeats 400000 in
theorem whole1_lo (lo i : Nat) (p q : Addr) (w : World) (h1 : i < 64) (hlo : lo < 18446744073709551616) (hp : w.cell? p = some (.int .u64 lo)) :
    Calls Try.prog 126 #[.int .i64 i, .pointer (some p), .pointer (some q)] w fun e w' => e = .returned (.bool (lo.testBit i)) ∧ w' = w := by
  have HB := Lib.hid (u64_bit lo i hlo)
  clear hlo
  go_enter Try.func126, Try.ntmps126
  go_wp2
  go_ret
  refine ⟨?_, rfl⟩
  rw [← HB.out]
  rfl
set_option maxHeartbeats 400000 in
theorem whole1_hi (hi i : Nat) (p q : Addr) (w : World) (h1 : 64 ≤ i) (h2 : i < 128) (hhi : hi < 18446744073709551616) (hp : w.cell? q = some (.int .u64 hi)) :
    Calls Try.prog 126 #[.int .i64 i, .pointer (some p), .pointer (some q)] w fun e w' => e = .returned (.bool (hi.testBit (i - 64))) ∧ w' = w := by
  obtain ⟨d, rfl⟩ : ∃ d, i = d + 64 := ⟨i - 64, by omega⟩
  have HB := Lib.hid (u64_bit hi d hhi)
  have he : (((d + 64 : Nat) : Int) - 64) = (d : Int) := by omega
  clear hhi
  go_enter Try.func126, Try.ntmps126
  go_wp2
  go_ret
  refine ⟨?_, rfl⟩
  rw [Nat.add_sub_cancel, ← HB.out]
  try simp
theorem whole_bit (lo hi i : Nat) (hlo : lo < 18446744073709551616) : (lo + hi * 18446744073709551616).testBit i = if i < 64 then lo.testBit i else hi.testBit (i - 64) := by
  have e : lo + hi * 18446744073709551616 = 2 ^ 64 * hi + lo := by omega
  rw [e, Nat.testBit_two_pow_mul_add _ hlo]
def spec_Whole.f (a0 a1 : Int) : Option (List Int) :=
  if 0 ≤ a0 ∧ a0 < 18446744073709551616 ∧ 0 ≤ a1 ∧ a1 < 18446744073709551616 then some (Dig.dg (a0.toNat + a1.toNat * 18446744073709551616)) else none
set_option maxHeartbeats 2000000 in
set_option maxRecDepth 100000 in
theorem spec_Whole.calls (a0 a1 : Int) (r : List Int) (w : World) (h : spec_Whole.f a0 a1 = some r) :
    Calls Try.prog 78 #[.int .u64 a0, .int .u64 a1] w fun e w' => ∃ v0_ : Value, e = .returned (v0_) ∧ Kd.V (Kd.int .i64) 3 w' w.heap.size (fun k_ => (w.heap.size ≤ k_)) v0_ r ∧ Below w.heap.size w w' := by
  unfold spec_Whole.f at h
  split at h
  case isFalse => cases h
  rename_i hb
  obtain ⟨h0, h1, h2, h3⟩ := hb
  obtain ⟨lo, rfl⟩ := Int.eq_ofNat_of_zero_le h0
  obtain ⟨hi, rfl⟩ := Int.eq_ofNat_of_zero_le h2
  rw [Int.toNat_natCast, Int.toNat_natCast] at h
  have hlo : lo < 18446744073709551616 := by omega
  have hhi : hi < 18446744073709551616 := by omega
  clear h0 h1 h2 h3
  obtain rfl := Option.some.inj h
  have hmf : ∀ (fn : Fn) (first cap : Array Value) (w : World), (Instr.makeFunc fn first cap).run Try.prog w = .ok (.func fn first cap) w := fun _ _ _ _ => rfl
  have hm : lo + hi * 18446744073709551616 < 2 ^ 128 := by omega
  have hof : Dig.ofb (lo + hi * 18446744073709551616).testBit 128 = lo + hi * 18446744073709551616 := Dig.ofb_is hm (fun _ _ => rfl)
  have hr : spec_trim.f 10 (Dig.digs 9 (Dig.ofb (lo + hi * 18446744073709551616).testBit 128)) = some (Dig.dg (lo + hi * 18446744073709551616)) := by
    rw [hof]
    exact trim_digs 9 _ 10 (by omega) (by decide) (by decide)
  have hcl : Hid (∀ (i : Nat) (W : World), i < 128 → Below (w.heap.size + 2) ((w.alloc (.cells #[.int .u64 lo] 22)).alloc (.cells #[.int .u64 hi] 22)) W → Calls Try.prog 126 (#[.int .i64 i] ++ #[.pointer (some ⟨w.heap.size, 0, none⟩), .pointer (some ⟨w.heap.size + 1, 0, none⟩)]) W
      (fun e W' => e = .returned (.bool ((lo + hi * 18446744073709551616).testBit i)) ∧ Below W.heap.size W W')) := by
    intro i W hi128 hW
    have c0 : W.cell? ⟨w.heap.size, 0, none⟩ = some (.int .u64 lo) := by
      rw [hW.cell (p := ⟨w.heap.size, 0, none⟩) (by simp), World.cell?_alloc_past _ _ _ (by simp), World.cell?_alloc_at _ _ _ _ rfl]; rfl
    have c1 : W.cell? ⟨w.heap.size + 1, 0, none⟩ = some (.int .u64 hi) := by
      rw [hW.cell (p := ⟨w.heap.size + 1, 0, none⟩) (by simp), World.cell?_alloc_at _ _ _ _ (by simp)]; rfl
    rw [whole_bit lo hi i hlo]
    split
    · exact (whole1_lo lo i _ _ W (by assumption) hlo c0).mono fun e w' ⟨he, hw⟩ => ⟨he, by rw [hw]; exact Below.refl _ _⟩
    · exact (whole1_hi hi i _ _ W (by omega) hi128 hhi c1).mono fun e w' ⟨he, hw⟩ => ⟨he, by rw [hw]; exact Below.refl _ _⟩
  have HC := Lib.hid (spec_OfBits.calls ((w.alloc (.cells #[.int .u64 lo] 22)).alloc (.cells #[.int .u64 hi] 22)) 126 #[.pointer (some ⟨w.heap.size, 0, none⟩), .pointer (some ⟨w.heap.size + 1, 0, none⟩)] _
    (fun _ _ => rfl) (by simpa using hcl) 10 _ hr)
  clear hr hof hm hcl hlo hhi h
  go_enter Try.func78, Try.ntmps78
  go_wp2_with fail
  refine HC.out.mono ?_
  rintro e w1 ⟨v0, rfl, hv, hb⟩
  have HV := Lib.hid hv
  have HB := Lib.hid hb
  clear hv hb HC
  go_wp2
  go_ret
  refine ⟨_, rfl, Kd.V_mono HV.out (fun q hq => by simp at hq; omega), ?_⟩
  exact (((Below.refl w.heap.size w).alloc (Nat.le_refl _) _).alloc (by simp) _).trans (HB.out.mono (by simp; omega))
/-! ### laws_wideWhole: function 25 -/
def laws_wideWhole.f (a0_0 : Int) (a0_1 : Int) : Option (List Int) := (spec_Whole.f a0_0 a0_1).bind fun t108 => (some t108)
set_option maxHeartbeats 8000000 in
set_option maxRecDepth 100000 in
theorem laws_wideWhole.calls (a0_0 : Int) (a0_1 : Int) (r : List Int) (w : World) (h : laws_wideWhole.f a0_0 a0_1 = some r) :
    Calls Try.prog 25 #[.agg #[.int .u64 a0_0, .int .u64 a0_1]] w fun e w' => ∃ v0_ : Value, e = .returned (v0_) ∧ Kd.V (Kd.int .i64) 3 w' w.heap.size (fun k_ => (w.heap.size ≤ k_)) v0_ r ∧ Below w.heap.size w w' := by
  have hu24 := Try.underlying24
  have HB := Aside0.mk (Below.refl w.heap.size w)
  have H : ((spec_Whole.f a0_0 a0_1).bind fun t108 => (some t108)) = some r := h
  clear h
  replace H := Option.bind_eq_some_iff.mp H
  obtain ⟨t108, A20, H⟩ := H
  replace H : (some t108) = some r := H
  have A2 := Aside0.mk A20
  clear A20
  obtain rfl := Option.some.inj H
  go_enter Try.func25, Try.ntmps25
  go_wp2_with (first | ((with_reducible refine gate_dst (N := 1) rfl ?_); refine box_event ?hg (N := 1) ?hd (cs := #[.int .u64 a0_0, .int .u64 a0_1]) (t := 24) ?hr ?_; (case hd => rfl); (case hg => rfl); (case hr => first | (go_simp; done) | (go_simp; rfl)); intro gb107 hg w3 hbox hb; have n0_ := Aside0.mk (below_step (by repeat (first | (with_reducible first | exact HB.out | apply below_alloc | apply pw_below_drewN | apply below_drew1) | exact HB.out)) hb); have n1_ := Aside0.mk (hbox); have n2_ := Aside0.mk ((by rw [hg]; exact (below_size (by repeat (first | (with_reducible first | exact HB.out | apply below_alloc | apply pw_below_drewN | apply below_drew1) | exact HB.out))) : w.heap.size ≤ gb107)); have n3_ := Aside0.mk ((by rw [hg]; exact (below_size (by repeat (first | (with_reducible first | exact HB.out | apply below_alloc | apply pw_below_drewN | apply below_drew1) | exact HB.out))) : w.heap.size ≤ gb107)); clear HB; have HB := n0_; have BK107 := n1_; have GW107 := n2_; have GE107 := n3_; clear n0_ n1_ n2_ n3_; clear hb hbox hg; have hcz4_0 : w3.cell? ⟨gb107, 0, none⟩ = some (.int .u64 a0_0) := (blk_cell BK107.out 0).trans rfl; have hcz4_1 : w3.cell? ⟨gb107, 1, none⟩ = some (.int .u64 a0_1) := (blk_cell BK107.out 1).trans rfl; have hfz4_0 := blk_frozen BK107.out 0; have hfz4_1 := blk_frozen BK107.out 1) | ((with_reducible refine gate_callee (f := 78) rfl ?_); refine goesL_ (some 7) rfl rfl Try.func78 (by kernel_rfl) rfl #[.int .u64 a0_0, .int .u64 a0_1] rfl (by (try simp only [List.map_toArray, List.map_cons, List.map_nil]); first | done | rfl | (simp only [List.length_drop, List.length_take]; rfl)) ?_; (with_reducible refine (spec_Whole.calls a0_0 a0_1 t108 _ A2.out).mono ?_); rintro e w5 ⟨v109, rfl, ho0, hb⟩; refine ⟨_, rfl, ?_⟩; have n0_ := Aside0.mk (Kd.V_lower (Kd.V_mono (ok' := fun k_ => (w.heap.size ≤ k_) ∧ k_ ≠ gb107) ho0 (fun k_ hk_ => ⟨(Nat.le_trans (below_size (by repeat (first | (with_reducible first | exact HB.out | apply below_alloc | apply pw_below_drewN | apply below_drew1 | refine below_set ?_ GE107.out) | exact HB.out))) hk_), (Kd.freshB (g := gb107) (o := .cells #[.int .u64 a0_0, .int .u64 a0_1] 24 (0, 0)) (by exact BK107.out) k_ hk_)⟩)) (below_size (by repeat (first | (with_reducible first | exact HB.out | apply below_alloc | apply pw_below_drewN | apply below_drew1 | refine below_set ?_ GE107.out) | exact HB.out)))); have n1_ := Aside0.mk (blk_below (g := gb107) (o := .cells #[.int .u64 a0_0, .int .u64 a0_1] 24 (0, 0)) (by exact BK107.out) hb); have n2_ := Aside0.mk (below_step (by repeat (first | (with_reducible first | exact HB.out | apply below_alloc | apply pw_below_drewN | apply below_drew1 | refine below_set ?_ GE107.out) | exact HB.out)) hb); clear BK107; clear HB; have HO110 := n0_; have BK107 := n1_; have HB := n2_; clear n0_ n1_ n2_; (try clear hb); (try clear hb2); (try clear hk); (try clear hi); (try clear ho0)))
  go_ret
  exact ⟨_, by first | rfl | (simp [errW_none, errW_some] <;> rfl) | (simp [*, errW_none, errW_some] <;> rfl), by (with_reducible repeat (first | apply Kd.V_alloc | apply Kd.V_drewN | apply Kd.V_drew)); exact Kd.V_mono HO110.out (fun _ hk => hk.1), by repeat (first | (with_reducible first | exact HB.out | apply below_alloc | apply pw_below_drewN | apply below_drew1 | refine below_set ?_ GE107.out) | exact HB.out)⟩
/-! ### spec_Big_Bit: function 41 -/
def spec_Big_Bit.f (l0 : List Int) (a1 : Int) : Option (Bool) := if a1 ≥ 0 then (if (wrap64 (Int.tdiv a1 16)) < (l0.length : Int) then (if 0 ≤ (wrap64 (Int.tdiv a1 16)) then (if 0 ≤ (Int.tmod a1 16) then (some ((Go.bits .and .i64 (shr .i64 (rd l0 (wrap64 (Int.tdiv a1 16))) (Int.tmod a1 16)) 1) == 1)) else (none)) else (none)) else (some false)) else (some false)
set_option maxHeartbeats 8000000 in
set_option maxRecDepth 100000 in
theorem spec_Big_Bit.calls (A0 : Option Addr) (c0 : Nat) (l0 : List Int) (a1 : Int) (r : Bool) (w : World) (hr0 : Kd.C (Kd.int .i64) w A0 l0.length l0) (hc0 : l0.length ≤ c0) (h : spec_Big_Bit.f l0 a1 = some r) :
    Calls Try.prog 41 #[.slice A0 l0.length c0, .int .i64 a1] w fun e w' => e = .returned (.bool r) ∧ Drawn0 w w' := by
  have HR0 := Aside0.mk hr0
  have HC0 := Aside0.mk hc0
  clear hr0 hc0
  have H : (if a1 ≥ 0 then (if (wrap64 (Int.tdiv a1 16)) < (l0.length : Int) then (if 0 ≤ (wrap64 (Int.tdiv a1 16)) then (if 0 ≤ (Int.tmod a1 16) then (some ((Go.bits .and .i64 (shr .i64 (rd l0 (wrap64 (Int.tdiv a1 16))) (Int.tmod a1 16)) 1) == 1)) else (none)) else (none)) else (some false)) else (some false)) = some r := h
  clear h
  by_cases c3 : a1 ≥ 0
  · rw [if_pos c3] at H
    have c3b0 : decide (0 ≤ a1) = true := decide_eq_true c3
    clear c3
    by_cases c4 : (wrap64 (Int.tdiv a1 16)) < (l0.length : Int)
    · rw [if_pos c4] at H
      have c4b0 : decide ((wrap64 (Int.tdiv a1 16)) < (l0.length : Int)) = true := decide_eq_true c4
      clear c4
      obtain ⟨ji5, hji5⟩ : ∃ j_ : Int, (wrap64 (Int.tdiv a1 16)) = j_ := ⟨_, rfl⟩
      replace H : (if 0 ≤ (ji5) then (if 0 ≤ (Int.tmod a1 16) then (some ((Go.bits .and .i64 (shr .i64 (rd l0 (ji5)) (Int.tmod a1 16)) 1) == 1)) else (none)) else (none)) = some r := by first | (rw [hji5] at H; exact H) | (simp only [hji5] at H ⊢; exact H)
      (try rw [hji5] at c4b0)
      have hji5w : (IntKind.i64.wrap (Int.tdiv a1 16)) = ji5 := (i64_w _).trans hji5
      by_cases c6 : 0 ≤ (ji5)
      · rw [if_pos c6] at H
        have c6b0 : decide (0 ≤ (ji5)) = true := decide_eq_true c6
        clear c6
        obtain ⟨ji7, hji7⟩ : ∃ j_ : Int, (Int.tmod a1 16) = j_ := ⟨_, rfl⟩
        replace H : (if 0 ≤ (ji7) then (some ((Go.bits .and .i64 (shr .i64 (rd l0 (ji5)) (ji7)) 1) == 1)) else (none)) = some r := by first | (rw [hji7] at H; exact H) | (simp only [hji7] at H ⊢; exact H)
        by_cases c8 : 0 ≤ (ji7)
        · rw [if_pos c8] at H
          have c8b0 := eq_true c8
          have c8b1 : decide (0 ≤ (ji7)) = true := decide_eq_true c8
          clear c8
          obtain ⟨ji9, hji9⟩ : ∃ j_ : Int, (shr .i64 (rd l0 (ji5)) (ji7)) = j_ := ⟨_, rfl⟩
          replace H : (some ((Go.bits .and .i64 (ji9) 1) == 1)) = some r := by first | (rw [hji9] at H; exact H) | (simp only [hji9] at H ⊢; exact H)
          have hji9_ : ((rd l0 (ji5)) / 2 ^ min (ji7).toNat 64) = ji9 := hji9
          have hji9z : (ji7) ≤ 64 → ((rd l0 (ji5)) / 2 ^ (ji7).toNat) = ji9 := shr_small hji9
          obtain rfl := Option.some.inj H
          have p111 : 0 ≤ ((ji5) : Int) := of_decide_eq_true (by first | (with_reducible assumption) | assumption)
          have q111 : (ji5) < (l0.length : Int) := of_decide_eq_true (by first | (with_reducible assumption) | assumption)
          obtain ⟨ad111, e111, hx111_0⟩ := Kd.at_int HR0.out (ji5) p111 q111
          cases e111
          replace p111 := eq_true p111
          replace q111 := eq_true q111
          go_enter Try.func41, Try.ntmps41
          go_wp2
          go_ret
          exact ⟨by first | rfl | (simp; done) | (simp only [← hji5, ← hji7, ← hji9] <;> (first | rfl | simp)) | (simp [*]; done), by repeat (first | exact Drawn0.refl _ | apply Drawn0.step)⟩
        · rw [if_neg c8] at H
          exact absurd H (by simp)
      · rw [if_neg c6] at H
        exact absurd H (by simp)
    · rw [if_neg c4] at H
      have c4b0 : decide ((wrap64 (Int.tdiv a1 16)) < (l0.length : Int)) = false := decide_eq_false c4
      clear c4
      obtain rfl := Option.some.inj H
      go_enter Try.func41, Try.ntmps41
      go_wp2
      go_ret
      exact ⟨by first | rfl | (simp; done) | (simp [*]; done), by repeat (first | exact Drawn0.refl _ | apply Drawn0.step)⟩
  · rw [if_neg c3] at H
    have c3b0 : decide (0 ≤ a1) = false := decide_eq_false c3
    clear c3
    obtain rfl := Option.some.inj H
    go_enter Try.func41, Try.ntmps41
    go_wp2
    go_ret
    exact ⟨by first | rfl | (simp; done) | (simp [*]; done), by repeat (first | exact Drawn0.refl _ | apply Drawn0.step)⟩
/-! ### impl_wide: function 80 -/
def impl_wide.f (a0_0 : Int) (a0_1 : Int) : Option (Int × Int) := some (a0_0, a0_1)
set_option maxHeartbeats 8000000 in
set_option maxRecDepth 100000 in
theorem impl_wide.calls (a0_0 : Int) (a0_1 : Int) (r1 : Int) (r2 : Int) (w : World) (h : impl_wide.f a0_0 a0_1 = some (r1, r2)) :
    Calls Try.prog 80 #[.agg #[.int .u64 a0_0, .int .u64 a0_1]] w fun e w' => e = .returned (.agg #[.int .u64 r1, .int .u64 r2]) ∧ Below w.heap.size w w' := by
  have hu59 := Try.underlying59
  have hu24 := Try.underlying24
  have HB := Aside0.mk (Below.refl w.heap.size w)
  have H : (some (a0_0, a0_1)) = some (r1, r2) := h
  clear h
  simp only [Option.some.injEq, Prod.mk.injEq] at H
  obtain ⟨rfl, rfl⟩ := H
  go_enter Try.func80, Try.ntmps80
  go_wp2_with (first | ((with_reducible refine gate_dst (N := 1) rfl ?_); refine box_event ?hg (N := 1) ?hd (cs := #[.int .u64 a0_0, .int .u64 a0_1]) (t := 59) ?hr ?_; (case hd => rfl); (case hg => rfl); (case hr => first | (go_simp; done) | (go_simp; rfl)); intro gb112 hg w2 hbox hb; have n0_ := Aside0.mk (below_step (by repeat (first | (with_reducible first | exact HB.out | apply below_alloc | apply pw_below_drewN | apply below_drew1) | exact HB.out)) hb); have n1_ := Aside0.mk (hbox); have n2_ := Aside0.mk ((by rw [hg]; exact (below_size (by repeat (first | (with_reducible first | exact HB.out | apply below_alloc | apply pw_below_drewN | apply below_drew1) | exact HB.out))) : w.heap.size ≤ gb112)); have n3_ := Aside0.mk ((by rw [hg]; exact (below_size (by repeat (first | (with_reducible first | exact HB.out | apply below_alloc | apply pw_below_drewN | apply below_drew1) | exact HB.out))) : w.heap.size ≤ gb112)); clear HB; have HB := n0_; have BK112 := n1_; have GW112 := n2_; have GE112 := n3_; clear n0_ n1_ n2_ n3_; clear hb hbox hg) | ((with_reducible refine gate_dst (N := 2) rfl ?_); refine box_event ?hg (N := 2) ?hd (cs := #[.int .u64 0, .int .u64 0]) (t := 24) ?hr ?_; (case hd => rfl); (case hg => rfl); (case hr => first | (go_simp; done) | (go_simp; rfl)); intro gb113 hg w3 hbox hb; have n0_ := Aside0.mk (blk_below (g := gb112) (o := .cells #[.int .u64 a0_0, .int .u64 a0_1] 59 (0, 0)) (by exact BK112.out) hb); have n1_ := Aside0.mk (below_step (by repeat (first | (with_reducible first | exact HB.out | apply below_alloc | apply pw_below_drewN | apply below_drew1 | refine below_set ?_ GE112.out) | exact HB.out)) hb); have n2_ := Aside0.mk (hbox); have n3_ := Aside0.mk ((by rw [hg]; exact (below_size (by repeat (first | (with_reducible first | exact HB.out | apply below_alloc | apply pw_below_drewN | apply below_drew1 | refine below_set ?_ GE112.out) | exact HB.out))) : w.heap.size ≤ gb113)); have n4_ := Aside0.mk ((by rw [hg]; exact (below_size (by repeat (first | (with_reducible first | exact HB.out | apply below_alloc | apply pw_below_drewN | apply below_drew1 | refine below_set ?_ GE112.out) | exact HB.out))) : w.heap.size ≤ gb113)); have n5_ := Aside0.mk ((by rw [hg]; exact Nat.ne_of_lt (blk_lt (g := gb112) (o := .cells #[.int .u64 a0_0, .int .u64 a0_1] 59 (0, 0)) (by exact BK112.out)) : gb112 ≠ gb113)); have n6_ := Aside0.mk ((by rw [hg]; exact Nat.ne_of_gt (blk_lt (g := gb112) (o := .cells #[.int .u64 a0_0, .int .u64 a0_1] 59 (0, 0)) (by exact BK112.out)) : gb113 ≠ gb112)); clear BK112; clear HB; have BK112 := n0_; have HB := n1_; have BK113 := n2_; have GW113 := n3_; have GE113 := n4_; have NB112_113 := n5_; have NB113_112 := n6_; clear n0_ n1_ n2_ n3_ n4_ n5_ n6_; clear hb hbox hg; have hnb4 := NB112_113.out; have hnc4 := NB113_112.out; have hcz5_0 : w3.cell? ⟨gb112, 0, none⟩ = some (.int .u64 a0_0) := (blk_cell BK112.out 0).trans rfl; have hcz5_1 : w3.cell? ⟨gb112, 1, none⟩ = some (.int .u64 a0_1) := (blk_cell BK112.out 1).trans rfl; have hfz5_0 := blk_frozen BK112.out 0; have hfz5_1 := blk_frozen BK112.out 1; have hcz6_0 : w3.cell? ⟨gb113, 0, none⟩ = some (.int .u64 0) := (blk_cell BK113.out 0).trans rfl; have hcz6_1 : w3.cell? ⟨gb113, 1, none⟩ = some (.int .u64 0) := (blk_cell BK113.out 1).trans rfl; have hfz6_0 := blk_frozen BK113.out 0; have hfz6_1 := blk_frozen BK113.out 1))
  refine bodyPost_ret (results_cell_row rfl _ _ gb113 24 #[.int .u64 a0_0, .int .u64 a0_1] (0, 0) _ rfl (by (with_reducible repeat (first | refine blk_drewN ?_ _ | refine blk_drew ?_ | refine blk_alloc ?_ _)); refine blk_put (cs := #[.int .u64 a0_0, .int .u64 0]) ?_ 1 _ rfl; (with_reducible repeat (first | refine blk_drewN ?_ _ | refine blk_drew ?_ | refine blk_alloc ?_ _)); refine blk_put (cs := #[.int .u64 0, .int .u64 0]) ?_ 0 _ rfl; (with_reducible repeat (first | refine blk_drewN ?_ _ | refine blk_drew ?_ | refine blk_alloc ?_ _)); exact BK113.out) Try.underlying24 rfl (by kernel_rfl)) rfl ?_
  exact ⟨by first | rfl | (simp [errW_none, errW_some] <;> rfl) | (simp [*, errW_none, errW_some] <;> rfl), by repeat (first | (with_reducible first | exact HB.out | apply below_alloc | apply pw_below_drewN | apply below_drew1 | refine below_set ?_ GE112.out | refine below_set ?_ GE113.out) | exact HB.out)⟩
/-! ### uint128_New: function 133 -/
def uint128_New.f (a0 : Int) (a1 : Int) : Option (Int × Int) := some (a0, a1)
set_option maxHeartbeats 8000000 in
set_option maxRecDepth 100000 in
theorem uint128_New.calls (a0 : Int) (a1 : Int) (r1 : Int) (r2 : Int) (w : World) (h : uint128_New.f a0 a1 = some (r1, r2)) :
    Calls Try.prog 133 #[.int .u64 a0, .int .u64 a1] w fun e w' => e = .returned (.agg #[.int .u64 r1, .int .u64 r2]) ∧ Below w.heap.size w w' := by
  have hu59 := Try.underlying59
  have HB := Aside0.mk (Below.refl w.heap.size w)
  have H : (some (a0, a1)) = some (r1, r2) := h
  clear h
  simp only [Option.some.injEq, Prod.mk.injEq] at H
  obtain ⟨rfl, rfl⟩ := H
  go_enter Try.func133, Try.ntmps133
  go_wp2_with (first | ((with_reducible refine gate_dst (N := 4) rfl ?_); refine box_event ?hg (N := 4) ?hd (cs := #[.int .u64 0, .int .u64 0]) (t := 59) ?hr ?_; (case hd => rfl); (case hg => rfl); (case hr => first | (go_simp; done) | (go_simp; rfl)); intro gb114 hg w3 hbox hb; have n0_ := Aside0.mk (below_step (by repeat (first | (with_reducible first | exact HB.out | apply below_alloc | apply pw_below_drewN | apply below_drew1) | exact HB.out)) hb); have n1_ := Aside0.mk (hbox); have n2_ := Aside0.mk ((by rw [hg]; exact (below_size (by repeat (first | (with_reducible first | exact HB.out | apply below_alloc | apply pw_below_drewN | apply below_drew1) | exact HB.out))) : w.heap.size ≤ gb114)); have n3_ := Aside0.mk ((by rw [hg]; exact (below_size (by repeat (first | (with_reducible first | exact HB.out | apply below_alloc | apply pw_below_drewN | apply below_drew1) | exact HB.out))) : w.heap.size ≤ gb114)); clear HB; have HB := n0_; have BK114 := n1_; have GW114 := n2_; have GE114 := n3_; clear n0_ n1_ n2_ n3_; clear hb hbox hg; have hcz4_0 : w3.cell? ⟨gb114, 0, none⟩ = some (.int .u64 0) := (blk_cell BK114.out 0).trans rfl; have hcz4_1 : w3.cell? ⟨gb114, 1, none⟩ = some (.int .u64 0) := (blk_cell BK114.out 1).trans rfl; have hfz4_0 := blk_frozen BK114.out 0; have hfz4_1 := blk_frozen BK114.out 1))
  refine bodyPost_ret (results_cell_row rfl _ _ gb114 59 #[.int .u64 a0, .int .u64 a1] (0, 0) _ rfl (by (with_reducible repeat (first | refine blk_drewN ?_ _ | refine blk_drew ?_ | refine blk_alloc ?_ _)); refine blk_put (cs := #[.int .u64 a0, .int .u64 0]) ?_ 1 _ rfl; (with_reducible repeat (first | refine blk_drewN ?_ _ | refine blk_drew ?_ | refine blk_alloc ?_ _)); refine blk_put (cs := #[.int .u64 0, .int .u64 0]) ?_ 0 _ rfl; (with_reducible repeat (first | refine blk_drewN ?_ _ | refine blk_drew ?_ | refine blk_alloc ?_ _)); exact BK114.out) Try.underlying59 rfl (by kernel_rfl)) rfl ?_
  exact ⟨by first | rfl | (simp [errW_none, errW_some] <;> rfl) | (simp [*, errW_none, errW_some] <;> rfl), by repeat (first | (with_reducible first | exact HB.out | apply below_alloc | apply pw_below_drewN | apply below_drew1 | refine below_set ?_ GE114.out) | exact HB.out)⟩
-- NOT PRINTED: function 134 (binary_bigEndian_Uint64)
-- NOT PRINTED: function 120 (uint128_FromBytesBE)
-- NOT PRINTED: function 135 (binary_littleEndian_Uint64)
-- NOT PRINTED: function 121 (uint128_FromBytes)
/-! ### impl_WideFromBytes: function 74 -/
def impl_WideFromBytes.f (l0 : List Int) (a1 : Bool) : Option (Int × Int × Bool) := wfb l0 a1
theorem impl_WideFromBytes.calls (A0 : Option Addr) (c0 : Nat) (l0 : List Int) (a1 : Bool) (r1 r2 : Int) (r3 : Bool) (w : World) (hr0 : Kd.C (Kd.int .u8) w A0 l0.length l0) (hc0 : l0.length ≤ c0) (h : impl_WideFromBytes.f l0 a1 = some (r1, r2, r3)) :
    Calls Try.prog 74 #[.slice A0 l0.length c0, .bool a1] w fun e w' => e = .returned (.tuple #[.agg #[.int .u64 r1, .int .u64 r2], .bool r3]) ∧ Below w.heap.size w w' :=
  wfb_calls A0 c0 l0 a1 r1 r2 r3 w hr0 hc0 h
-- NOT PRINTED: function 122 (impl_tried_byte)
/-! ### impl_WidePut: function 75 -/
def impl_WidePut.f (a0_0 a0_1 : Int) (l1 : List Int) (a2 : Bool) : Option (List Int × Bool) := wpf a0_0 a0_1 l1 a2
theorem impl_WidePut.calls (a0_0 a0_1 : Int) (A1 : Option Addr) (c1 : Nat) (l1 : List Int) (a2 : Bool) (r1 : List Int) (r2 : Bool) (w : World) (hr1 : Kd.C (Kd.int .u8) w A1 l1.length l1) (hc1 : l1.length ≤ c1) (h : impl_WidePut.f a0_0 a0_1 l1 a2 = some (r1, r2)) :
    Calls Try.prog 75 #[.agg #[.int .u64 a0_0, .int .u64 a0_1], .slice A1 l1.length c1, .bool a2] w fun e w' => ∃ v0_ : Value, e = .returned (.tuple #[v0_, .bool r2]) ∧ Kd.V (Kd.int .u8) 5 w' w.heap.size (fun k_ => (w.heap.size ≤ k_)) v0_ r1 ∧ Below w.heap.size w w' :=
  wpf_calls a0_0 a0_1 A1 c1 l1 a2 r1 r2 w hr1 hc1 h
end Go.Proofs.Ytiifnofghicnaaa.BAll
