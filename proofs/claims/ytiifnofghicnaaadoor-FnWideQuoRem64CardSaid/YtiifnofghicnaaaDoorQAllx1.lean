/- Printed by the kit's print.py, called for several laws at once: functions as plain Lean, and the walks' contracts. -/
import Derived.Test.YtiifnofghicnaaaDoorQAllx0
namespace Go.Proofs.YtiifnofghicnaaaDoor.PAll
open Go.RowKit Go.Proofs.YtiifnofghicnaaaDoorW.PrintWords Go.Proofs.YtiifnofghicnaaaDoorW.PrintLast Go.Proofs.YtiifnofghicnaaaDoorW.PrintMore
attribute [local go_sem] max2_int min2_int max_two min_two max_three min_three max_four min_four   -- for this text's walks alone
set_option linter.unusedVariables false
set_option linter.unusedSimpArgs false
attribute [local go_sem high] eqA24
/-! ### spec_trim: function 44 -/
def spec_trim.l0 : Nat → List Int → Option (List Int)
  | 0, _ => none
  | k + 1, x0 => if (x0.length : Int) > 0 then (if 0 ≤ (wrap64 ((x0.length : Int) - 1)) then (if (wrap64 ((x0.length : Int) - 1)) < (x0.length : Int) then (if (rd x0 (wrap64 ((x0.length : Int) - 1))) = 0 then (if (wrap64 ((x0.length : Int) - 1)) ≤ (x0.length : Int) then (spec_trim.l0 k (x0.take ((wrap64 ((x0.length : Int) - 1)) : Int).toNat)) else (none)) else (some x0)) else (none)) else (none)) else (some x0)
def spec_trim.f (k : Nat) (l0 : List Int) : Option (List Int) := spec_trim.l0 k l0
theorem spec_trim.mono_l : ∀ k, (∀ y0, LeO (spec_trim.l0 k y0) (spec_trim.l0 (k + 1) y0))
  | 0 => fun _ r h => by simp [spec_trim.l0] at h
  | k + 1 => by
    have ih0 := spec_trim.mono_l k
    · intro y0
      unfold spec_trim.l0
      repeat' first
      | (with_reducible exact ih0 _)
      | (with_reducible exact LeO.refl _)
      | (with_reducible exact LeO.none _)
      | (with_reducible refine LeO.ite ?_ ?_)
      | (with_reducible refine LeO.bind ?_ (fun _ => ?_))
      | exact ih0 _
      | exact LeO.none _
      | refine LeO.ite ?_ ?_
      | refine LeO.bind ?_ (fun _ => ?_)
theorem spec_trim.mono : ∀ a0 k, LeO (spec_trim.f k a0) (spec_trim.f (k + 1) a0) := by
  intro a0 k
  have ih0 := spec_trim.mono_l k
  unfold spec_trim.f
  repeat' first
      | (with_reducible exact ih0 _)
      | (with_reducible exact LeO.refl _)
      | (with_reducible exact LeO.none _)
      | (with_reducible refine LeO.ite ?_ ?_)
      | (with_reducible refine LeO.bind ?_ (fun _ => ?_))
      | exact ih0 _
      | exact LeO.none _
      | refine LeO.ite ?_ ?_
      | refine LeO.bind ?_ (fun _ => ?_)
set_option maxHeartbeats 8000000 in
set_option maxRecDepth 100000 in
theorem spec_trim.calls (k : Nat) (P0_ : Nat → Prop) (A0 : Option Addr) (c0 : Nat) (l0 : List Int) (r : List Int) (w : World) (hs0 : Kd.V (Kd.int .i64) 3 w w.heap.size (fun k_ => P0_ k_) (.slice A0 l0.length c0) l0) (h : spec_trim.f k l0 = some r) :
    Calls Tryd.prog 44 #[.slice A0 l0.length c0] w fun e w' => ∃ v0_ : Value, e = .returned (v0_) ∧ Kd.V (Kd.int .i64) 3 w' w.heap.size (fun k_ => (P0_ k_ ∨ w.heap.size ≤ k_)) v0_ r ∧ Below w.heap.size w w' := by
  have HO0 := Aside0.mk (show Kd.V (Kd.int .i64) 3 w w.heap.size (fun k_ => (P0_ k_ ∨ w.heap.size ≤ k_)) (.slice A0 l0.length c0) l0 from Kd.V_mono hs0 (fun k_ hk => .inl hk))
  have HB := Aside0.mk (Below.refl w.heap.size w)
  have H : (spec_trim.l0 k l0) = some r := h
  clear h
  have H' := Aside0.mk H
  clear H
  go_enter Tryd.func44, Tryd.ntmps44
  go_wp2
  go_loopg [0] k (fun kq v0 w' => ∃ (x0_1 : List Int), Aside0 (spec_trim.l0 kq x0_1 = some r) ∧ Aside0 (kq ≤ k) ∧ Aside0 (Kd.V (Kd.int .i64) 3 w' w.heap.size (fun k_ => (P0_ k_ ∨ w.heap.size ≤ k_)) v0 x0_1) ∧ Aside0 (Below w.heap.size w w'))
  case atStart => exact ⟨(l0), H', ⟨Nat.le_refl _⟩, ⟨by (with_reducible repeat (first | apply Kd.V_alloc | apply Kd.V_drewN | apply Kd.V_drew)); exact HO0.out⟩, ⟨by repeat (first | (with_reducible first | exact HB.out | apply below_alloc | apply pw_below_drewN | apply below_drew1) | exact HB.out)⟩⟩
  case round =>
    clear H'
    obtain ⟨x0_1, HA, HK1, HO_0, HB⟩ := hrel
    cases gk with
    | zero => exact absurd HA.out (by simp [spec_trim.l0])
    | succ k1 =>
      have H := HA.out
      clear HA
      simp only [spec_trim.l0] at H
      by_cases c2 : (x0_1.length : Int) > 0
      · rw [if_pos c2] at H
        have c2b0 : decide (0 < (x0_1.length : Int)) = true := decide_eq_true c2
        have c2b1 : decide (0 < x0_1.length) = true := decide_eq_true (by omega)
        clear c2
        obtain ⟨ji3, hji3⟩ : ∃ j_ : Int, (wrap64 ((x0_1.length : Int) - 1)) = j_ := ⟨_, rfl⟩
        replace H : (if 0 ≤ (ji3) then (if (ji3) < (x0_1.length : Int) then (if (rd x0_1 (ji3)) = 0 then (if (ji3) ≤ (x0_1.length : Int) then (spec_trim.l0 k1 (x0_1.take ((ji3) : Int).toNat)) else (none)) else (some x0_1)) else (none)) else (none)) = some r := by first | (rw [hji3] at H; exact H) | (simp only [hji3] at H ⊢; exact H)
        have hji3w : (IntKind.i64.wrap ((x0_1.length : Int) - 1)) = ji3 := (i64_w _).trans hji3
        by_cases c4 : 0 ≤ (ji3)
        · rw [if_pos c4] at H
          have c4b0 : decide (0 ≤ (ji3)) = true := decide_eq_true c4
          clear c4
          by_cases c5 : (ji3) < (x0_1.length : Int)
          · rw [if_pos c5] at H
            have c5b0 : decide ((ji3) < (x0_1.length : Int)) = true := decide_eq_true c5
            clear c5
            by_cases c6 : (rd x0_1 (ji3)) = 0
            · rw [if_pos c6] at H
              have c6b0 : ((rd x0_1 (ji3)) == 0) = true := beq_iff_eq.mpr c6
              have c6b1 : ((rd x0_1 (ji3)) != 0) = false := bne_eq_false_iff_eq.mpr c6
              clear c6
              have c7b0 := eq_true (of_decide_eq_true (by first | (with_reducible assumption) | assumption) : 0 ≤ (ji3))
              by_cases c8 : (ji3) ≤ (x0_1.length : Int)
              · rw [if_pos c8] at H
                have c8b0 := eq_true c8
                have c8b1 : decide ((ji3) ≤ (x0_1.length : Int)) = true := decide_eq_true c8
                clear c8
                obtain ⟨y109, hy109⟩ : ∃ y_ : List Int, y_ = (x0_1.take ((ji3) : Int).toNat) := ⟨_, rfl⟩
                replace H : (spec_trim.l0 k1 y109) = some r := by first | (rw [hy109]; with_reducible exact H) | (have H2_ := (Option.bind_some _ _).symm.trans H; rw [hy109]; with_reducible exact H2_) | (have H2_ := (Option.bind_some _ _).symm.trans H; with_reducible exact H2_) | with_reducible exact H | (rw [hy109]; exact H) | exact H
                have Ny109 := Aside0.mk hy109
                clear hy109
                have H' := Aside0.mk H
                clear H
                obtain ⟨Ao9, co9, eo9⟩ := Kd.V_slice HO_0.out
                subst eo9
                have p108 : 0 ≤ ((ji3) : Int) := of_decide_eq_true (by first | (with_reducible assumption) | assumption)
                have q108 : (ji3) < (x0_1.length : Int) := of_decide_eq_true (by first | (with_reducible assumption) | assumption)
                obtain ⟨ad108, e108, hx108_0⟩ := Kd.at_int (Kd.V_reads' HO_0.out).2.2 (ji3) p108 q108
                cases e108
                replace p108 := eq_true p108
                replace q108 := eq_true q108
                have q10 : ((ji3) : Int) ≤ ((x0_1.length : Int) : Int) := of_decide_eq_true (by first | (with_reducible assumption) | assumption)
                obtain ⟨i010, hi010, _, hsz10, _⟩ := info_parts info3
                have hroom10 : x0_1.length ≤ co9 := (Kd.V_reads' HO_0.out).2.1
                have hC10 : Kd.F (Kd.int .i64) _ _ (some ad108) x0_1.length x0_1 := (Kd.V_at (base := w.heap.size) HO_0.out).2.2
                have hcut10 := cut_to (P := Tryd.prog) 30 3 .i64 Tryd.underlying30 hi010 (some ad108) x0_1.length co9 (ji3) (of_decide_eq_true (by first | (with_reducible assumption) | assumption)) q10 hroom10
                have hr10 := Kd.F_take (m := ((ji3) : Int).toNat) hC10 (by omega)
                have hy10 : y109.length = ((ji3) : Int).toNat := (by rw [Ny109.out, List.length_take]; omega)
                rw [← Ny109.out] at hr10
                rw [← hy10] at hcut10
                have HO113 := Aside0.mk (show Kd.V (Kd.int .i64) 3 _ w.heap.size _ (.slice (some ad108) y109.length co9) y109 from Kd.V_mk (by omega) hr10)
                have HC113 := Aside0.mk (show y109.length ≤ co9 from by omega)
                clear hr10 hC10 hroom10 hi010 hsz10
                have KY10 := Aside0.mk hy10
                clear hy10
                replace q10 := eq_true q10
                go_wp2
                go_roundg k1
                case measure => have := HK1.out; omega
                case rel => exact ⟨(y109), H', ⟨by have := HK1.out; omega⟩, ⟨by (with_reducible repeat (first | apply Kd.V_alloc | apply Kd.V_drewN | apply Kd.V_drew)); exact HO113.out⟩, ⟨by repeat (first | (with_reducible first | exact HB.out | apply below_alloc | apply pw_below_drewN | apply below_drew1) | exact HB.out)⟩⟩
              · rw [if_neg c8] at H
                exact absurd H (by simp)
            · rw [if_neg c6] at H
              have c6b0 : ((rd x0_1 (ji3)) == 0) = false := beq_eq_false_iff_ne.mpr c6
              have c6b1 : ((rd x0_1 (ji3)) != 0) = true := bne_iff_ne.mpr c6
              obtain rfl := Option.some.inj H
              obtain ⟨Ao11, co11, eo11⟩ := Kd.V_slice HO_0.out
              subst eo11
              have p108 : 0 ≤ ((ji3) : Int) := of_decide_eq_true (by first | (with_reducible assumption) | assumption)
              have q108 : (ji3) < (x0_1.length : Int) := of_decide_eq_true (by first | (with_reducible assumption) | assumption)
              obtain ⟨ad108, e108, hx108_0⟩ := Kd.at_int (Kd.V_reads' HO_0.out).2.2 (ji3) p108 q108
              cases e108
              replace p108 := eq_true p108
              replace q108 := eq_true q108
              go_wp2
              go_ret
              exact ⟨_, by first | rfl | (simp [errW_none, errW_some] <;> rfl) | (simp only [← hji3]; first | rfl | (simp [errW_none, errW_some] <;> rfl)) | (simp [*, errW_none, errW_some] <;> rfl), by (with_reducible repeat (first | apply Kd.V_alloc | apply Kd.V_drewN | apply Kd.V_drew)); exact HO_0.out, by repeat (first | (with_reducible first | exact HB.out | apply below_alloc | apply pw_below_drewN | apply below_drew1) | exact HB.out)⟩
          · rw [if_neg c5] at H
            exact absurd H (by simp)
        · rw [if_neg c4] at H
          exact absurd H (by simp)
      · rw [if_neg c2] at H
        have c2b0 : decide (0 < (x0_1.length : Int)) = false := decide_eq_false c2
        have c2b1 : decide (0 < x0_1.length) = false := decide_eq_false (by omega)
        clear c2
        obtain rfl := Option.some.inj H
        obtain ⟨Ao12, co12, eo12⟩ := Kd.V_slice HO_0.out
        subst eo12
        go_wp2
        go_ret
        exact ⟨_, by first | rfl | (simp [errW_none, errW_some] <;> rfl) | (simp [*, errW_none, errW_some] <;> rfl), by (with_reducible repeat (first | apply Kd.V_alloc | apply Kd.V_drewN | apply Kd.V_drew)); exact HO_0.out, by repeat (first | (with_reducible first | exact HB.out | apply below_alloc | apply pw_below_drewN | apply below_drew1) | exact HB.out)⟩
/-! ### spec_OfBits: function 80 -/
theorem row_of_block {W : World} {g t : Nat} {k : IntKind} {xs : List Int} (h : W.heap[g]? = some (.cells (xs.map (Value.int k)).toArray t (0, 0))) (hm : xs.length ≤ 9223372036854775807) :
    (Kd.int k).C W (some ⟨g, 0, none⟩) xs.length xs := by
  refine ⟨rfl, hm, fun _ => ⟨_, rfl, fun j p hj => ⟨[.int k p], rfl, rfl, fun i u hu => ?_⟩⟩⟩
  match i, hu with
  | 0, hu =>
    obtain rfl : Value.int k p = u := by simpa using hu
    have e : (Addr.add ⟨g, 0, none⟩ (j * (Kd.int k).sz + 0)) = ⟨g, j, none⟩ := by
      simp [Kd.int, Kd.scalar, Addr.add]
      rintro rfl
      rfl
    rw [e, blk_cell h]
    simp [hj]
theorem row_V {W : World} {g t base : Nat} {k : IntKind} {xs : List Int} (h : W.heap[g]? = some (.cells (xs.map (Value.int k)).toArray t (0, 0))) (hm : xs.length ≤ 9223372036854775807) :
    Kd.V (Kd.int k) t W base (fun q => q = g) (.slice (some ⟨g, 0, none⟩) xs.length xs.length) xs :=
  Kd.V_mk (Nat.le_refl _) (fun W' hW => row_of_block ((hW g rfl (blk_lt h)).trans h) hm)
/-- A block of whole numbers reads as a row of them. -/
theorem i64_or_bit (d e : Nat) (he : e < 16) (hd : d < 2 ^ e) : Go.bits .or .i64 (d : Int) (wrap64 (2 ^ e)) = ((d + 2 ^ e : Nat) : Int) := by
  have h2 : (2 : Nat) ^ e ≤ 2 ^ 15 := Nat.pow_le_pow_right (by decide) (by omega)
  have h3 : wrap64 (2 ^ e) = ((2 ^ e : Nat) : Int) := by
    have : ((2 : Int) ^ e) = ((2 ^ e : Nat) : Int) := by simp
    rw [this]
    unfold wrap64
    omega
  rw [h3, (bits_nat .i64 16 (by decide) (fun n h0 h1 => by rw [IntKind.wrap_i64]; omega) d (2 ^ e) (by omega) (by omega)).2, Dig.or_add hd]
theorem cells_step (b : Nat → Bool) (k : Nat) (hk : k < 128) :
    (((Dig.digs 9 (Dig.ofb b k)).map (Value.int .i64)).toArray).setIfInBounds (k / 16) (.int .i64 (Go.bits .or .i64 ((Dig.ofb b k / 65536 ^ (k / 16) % 65536 : Nat) : Int) (wrap64 (2 ^ (k % 16))))) =
      ((Dig.digs 9 (Dig.ofb b k + 2 ^ k)).map (Value.int .i64)).toArray := by
  have hm := Dig.ofb_lt b k
  have hd : Dig.ofb b k / 65536 ^ (k / 16) % 65536 < 2 ^ (k % 16) := by
    refine Nat.lt_of_le_of_lt (Nat.mod_le _ _) ?_
    apply Nat.div_lt_of_lt_mul
    rw [Dig.p16, ← Nat.pow_add, show 16 * (k / 16) + k % 16 = k by omega]
    exact hm
  rw [i64_or_bit _ _ (by omega) hd, List.setIfInBounds_toArray, ← Dig.digs_set 9 _ _ hm (by omega), List.map_set]
theorem digs9_zero : Dig.digs 9 0 = [0, 0, 0, 0, 0, 0, 0, 0, 0] := by decide
set_option maxHeartbeats 2000000 in
set_option maxRecDepth 100000 in
/-- OfBits of 128 bits, by whatever function of one number that tells the bits b and leaves memory alone. -/
theorem spec_OfBits.calls (w : World) (fid : Nat) (caps : Array Value) (b : Nat → Bool)
    (hcf : ∀ (args : Array Value) (w : World), (callFunc fid args).run Tryd.prog w = .ok (.enter fid args) w)
    (hcl : Hid (∀ (i : Nat) (W : World), i < 128 → Below w.heap.size w W → Calls Tryd.prog fid (#[.int .i64 i] ++ caps) W (fun e W' => e = .returned (.bool (b i)) ∧ Below W.heap.size W W')))
    (k : Nat) (r : List Int) (hr : spec_trim.f k (Dig.digs 9 (Dig.ofb b 128)) = some r) :
    Calls Tryd.prog 80 #[.int .i64 128, .func (.func fid) #[] caps] w fun e w' => ∃ v0_ : Value, e = .returned (v0_) ∧ Kd.V (Kd.int .i64) 3 w' w.heap.size (fun k_ => (w.heap.size ≤ k_)) v0_ r ∧ Below w.heap.size w w' := by
  have hmk : ∀ w, (Instr.makeSlice 30 (.int .i64 9) (.int .i64 9)).run Tryd.prog w = .ok (.slice (some ⟨w.heap.size, 0, none⟩) 9 9) (w.alloc (.cells #[.int .i64 0,.int .i64 0,.int .i64 0,.int .i64 0,.int .i64 0,.int .i64 0,.int .i64 0,.int .i64 0,.int .i64 0] 3)) := fun _ => by kernel_rfl
  have HR := Lib.hid hr
  clear hr
  go_enter Tryd.func80, Tryd.ntmps80
  go_wp2_with fail
  go_loopw [12] (fun v wr => ∃ k : Nat, k ≤ 128 ∧ v = .int .i64 k ∧ wr.heap[w.heap.size]? = some (.cells ((Dig.digs 9 (Dig.ofb b k)).map (Value.int .i64)).toArray 3 (0,0)) ∧ Below w.heap.size w wr) (fun i _ => 128 - (intOf i).toNat)
  case atStart => exact ⟨0, by omega, rfl, by rw [Dig.ofb, digs9_zero]; exact (MapKept.heap_alloc w _).1, (Below.refl _ _).alloc (Nat.le_refl _) _⟩
  case round =>
    obtain ⟨k, hk, rfl, hblk, hb⟩ := hrel
    have hlt := blk_lt hblk
    by_cases hlt : k < 128
    · go_wp2_with fail
      refine (hcl.out k _ hlt hb).mono ?_
      rintro e w1 ⟨rfl, hb1⟩
      have hblk1 := (hb1.block _ (blk_lt hblk)).trans hblk
      cases hbk : b k
      · go_wp2
        go_roundw
        case rel => exact ⟨k + 1, by omega, by go_num, by rw [Dig.ofb, hbk]; exact hblk1, hb.trans (hb1.mono (by have := blk_lt hblk; omega))⟩
        case measure => simp [intOf]; omega
      · have hcell : w1.cell? ⟨w.heap.size, k / 16, none⟩ = some (.int .i64 ((Dig.ofb b k / 65536 ^ (k / 16) % 65536 : Nat) : Int)) := by
          rw [blk_cell hblk1]
          simp [Dig.digs_get 9 (Dig.ofb b k) (k / 16) (by omega)]
        have hfr : w1.frozen? ⟨w.heap.size, k / 16, none⟩ = false := blk_frozen hblk1 _
        obtain ⟨dd, hdd⟩ : ∃ dd : Nat, dd = Dig.ofb b k / 65536 ^ (k / 16) % 65536 := ⟨_, rfl⟩
        rw [← hdd] at hcell
        have HDD := Lib.hid hdd
        have HB := Lib.hid hblk1
        clear hdd hblk1 hblk
        go_wp2
        go_region
        go_wp2
        go_roundw
        case rel =>
          refine ⟨k + 1, by omega, by go_num, ?_, (hb.trans (hb1.mono (by have := hb.size; omega))).trans (((Below.refl w.heap.size w1).setCell (p := ⟨w.heap.size, k / 16, none⟩) (Nat.le_refl _) _).drew)⟩
          have h2 := blk_set HB.out (k / 16) (.int .i64 (Go.bits .or .i64 (dd : Int) (wrap64 (2 ^ (k % 16)))))
          rw [HDD.out, cells_step b k hlt] at h2
          rw [HDD.out]
          show _ = some (Obj.cells ((Dig.digs 9 (Dig.ofb b k + if b k = true then 2 ^ k else 0)).map (Value.int .i64)).toArray _ _)
          rw [hbk]
          exact h2
        case measure => simp [intOf]; omega
    · obtain rfl : k = 128 := by omega
      have hV := row_V (base := wr.heap.size) hblk (by rw [Dig.digs_len]; decide)
      rw [Dig.digs_len] at hV
      have hV' : Kd.V (Kd.int .i64) 3 wr wr.heap.size (fun q => q = w.heap.size) (.slice (some ⟨w.heap.size, 0, none⟩) (Dig.digs 9 (Dig.ofb b 128)).length 9) (Dig.digs 9 (Dig.ofb b 128)) := by rw [Dig.digs_len]; exact hV
      have hT := spec_trim.calls _ _ _ 9 _ _ wr hV' HR.out
      rw [Dig.digs_len] at hT
      have HT := Lib.hid hT
      clear hT hV hV' hblk
      go_wp2_with fail
      refine (HT.out).mono ?_
      rintro e w1 ⟨v0, rfl, hv, hb1⟩
      go_wp2
      go_ret
      exact ⟨_, rfl, Kd.V_mono hv (fun q hq => by rcases hq with rfl | hq; exact Nat.le_refl _; have := hb.size; omega), hb.trans (hb1.mono hb.size)⟩
/-! ### spec_Whole: function 45 -/
theorem wrap64_small {n : Int} (h0 : -9223372036854775808 ≤ n) (h1 : n < 9223372036854775808) : wrap64 n = n := by unfold wrap64; omega
/-- Noughts at the end are struck. -/
theorem trim_digs (j : Nat) : ∀ (m k : Nat), m < 65536 ^ j → j < 4611686018427387904 → j < k → spec_trim.f k (Dig.digs j m) = some (Dig.dg m) := by
  unfold spec_trim.f
  induction j with
  | zero =>
    intro m k hm _ hk
    obtain ⟨k, rfl⟩ : ∃ q, k = q + 1 := ⟨k - 1, by omega⟩
    obtain rfl : m = 0 := by simpa using hm
    simp [spec_trim.l0, Dig.digs_zero, Dig.dg_zero]
  | succ j ih =>
    intro m k hm hj hk
    obtain ⟨k, rfl⟩ : ∃ q, k = q + 1 := ⟨k - 1, by omega⟩
    have hl : ((Dig.digs (j + 1) m).length : Int) = (j : Int) + 1 := by rw [Dig.digs_len]; omega
    have hw : wrap64 ((j : Int) + 1 - 1) = (j : Int) := by unfold wrap64; omega
    simp only [spec_trim.l0, hl, hw]
    rw [if_pos (by omega), if_pos (by omega), if_pos (by omega)]
    have hrd : rd (Dig.digs (j + 1) m) (j : Int) = ((m / 65536 ^ j % 65536 : Nat) : Int) := by
      unfold rd
      rw [Int.toNat_natCast, Dig.digs_getD, if_pos (by omega)]
    rw [hrd]
    have hq : m / 65536 ^ j < 65536 := Nat.div_lt_of_lt_mul (by rw [← Nat.pow_succ]; exact hm)
    by_cases h0 : m < 65536 ^ j
    · rw [if_pos (by rw [Nat.div_eq_of_lt h0]; rfl), if_pos (by omega), Int.toNat_natCast, Dig.digs_take _ _ _ (by omega)]
      exact ih m k h0 (by omega) (by omega)
    · have hp : 0 < 65536 ^ j := Nat.pow_pos (by decide)
      have h1 : 1 ≤ m / 65536 ^ j := (Nat.le_div_iff_mul_le hp).2 (by omega)
      rw [if_neg (by omega)]
      unfold Dig.dg
      have : Dig.nd m = j + 1 := by
        have a := Dig.nd_le hm
        have b : ¬ Dig.nd m ≤ j := fun hle => h0 (Nat.lt_of_lt_of_le (Dig.lt_nd m) (Nat.pow_le_pow_right (by decide) hle))
        omega
      rw [this]
theorem u64_bit (n i : Nat) (hn : n < 18446744073709551616) : (Go.bits .and .u64 ((n : Int) / 2 ^ i) 1 == 1) = n.testBit i := by
  have h1 : (n : Int) / 2 ^ i = ((n / 2 ^ i : Nat) : Int) := by simp
  have h2 : n / 2 ^ i < 18446744073709551616 := Nat.lt_of_le_of_lt (Nat.div_le_self _ _) hn
  have h3 := u64_and_nat (n / 2 ^ i) 1 h2 (by decide)
  rw [h1, show (1 : Int) = ((1 : Nat) : Int) from rfl, h3, Nat.and_one_is_mod, Nat.testBit_eq_decide_div_mod_eq]
  rw [Bool.eq_iff_iff]
  simp
  omega
set_option maxHeartbeats 400000 in
theorem whole1_lo (lo i : Nat) (p q : Addr) (w : World) (h1 : i < 64) (hlo : lo < 18446744073709551616) (hp : w.cell? p = some (.int .u64 lo)) :
    Calls Tryd.prog 99 #[.int .i64 i, .pointer (some p), .pointer (some q)] w fun e w' => e = .returned (.bool (lo.testBit i)) ∧ w' = w := by
  have HB := Lib.hid (u64_bit lo i hlo)
  clear hlo
  go_enter Tryd.func99, Tryd.ntmps99
  go_wp2
  go_ret
  refine ⟨?_, rfl⟩
  rw [← HB.out]
  rfl
set_option maxHeartbeats 400000 in
theorem whole1_hi (hi i : Nat) (p q : Addr) (w : World) (h1 : 64 ≤ i) (h2 : i < 128) (hhi : hi < 18446744073709551616) (hp : w.cell? q = some (.int .u64 hi)) :
    Calls Tryd.prog 99 #[.int .i64 i, .pointer (some p), .pointer (some q)] w fun e w' => e = .returned (.bool (hi.testBit (i - 64))) ∧ w' = w := by
  obtain ⟨d, rfl⟩ : ∃ d, i = d + 64 := ⟨i - 64, by omega⟩
  have HB := Lib.hid (u64_bit hi d hhi)
  have he : (((d + 64 : Nat) : Int) - 64) = (d : Int) := by omega
  clear hhi
  go_enter Tryd.func99, Tryd.ntmps99
  go_wp2
  go_ret
  refine ⟨?_, rfl⟩
  rw [Nat.add_sub_cancel, ← HB.out]
  try simp
theorem whole_bit (lo hi i : Nat) (hlo : lo < 18446744073709551616) : (lo + hi * 18446744073709551616).testBit i = if i < 64 then lo.testBit i else hi.testBit (i - 64) := by
  have e : lo + hi * 18446744073709551616 = 2 ^ 64 * hi + lo := by omega
  rw [e, Nat.testBit_two_pow_mul_add _ hlo]
def spec_Whole.f (a0 a1 : Int) : Option (List Int) :=
  if 0 ≤ a0 ∧ a0 < 18446744073709551616 ∧ 0 ≤ a1 ∧ a1 < 18446744073709551616 then some (Dig.dg (a0.toNat + a1.toNat * 18446744073709551616)) else none
set_option maxHeartbeats 2000000 in
set_option maxRecDepth 100000 in
theorem spec_Whole.calls (a0 a1 : Int) (r : List Int) (w : World) (h : spec_Whole.f a0 a1 = some r) :
    Calls Tryd.prog 45 #[.int .u64 a0, .int .u64 a1] w fun e w' => ∃ v0_ : Value, e = .returned (v0_) ∧ Kd.V (Kd.int .i64) 3 w' w.heap.size (fun k_ => (w.heap.size ≤ k_)) v0_ r ∧ Below w.heap.size w w' := by
  unfold spec_Whole.f at h
  split at h
  case isFalse => cases h
  rename_i hb
  obtain ⟨h0, h1, h2, h3⟩ := hb
  obtain ⟨lo, rfl⟩ := Int.eq_ofNat_of_zero_le h0
  obtain ⟨hi, rfl⟩ := Int.eq_ofNat_of_zero_le h2
  rw [Int.toNat_natCast, Int.toNat_natCast] at h
  have hlo : lo < 18446744073709551616 := by omega
  have hhi : hi < 18446744073709551616 := by omega
  clear h0 h1 h2 h3
  obtain rfl := Option.some.inj h
  have hmf : ∀ (fn : Fn) (first cap : Array Value) (w : World), (Instr.makeFunc fn first cap).run Tryd.prog w = .ok (.func fn first cap) w := fun _ _ _ _ => rfl
  have hm : lo + hi * 18446744073709551616 < 2 ^ 128 := by omega
  have hof : Dig.ofb (lo + hi * 18446744073709551616).testBit 128 = lo + hi * 18446744073709551616 := Dig.ofb_is hm (fun _ _ => rfl)
  have hr : spec_trim.f 10 (Dig.digs 9 (Dig.ofb (lo + hi * 18446744073709551616).testBit 128)) = some (Dig.dg (lo + hi * 18446744073709551616)) := by
    rw [hof]
    exact trim_digs 9 _ 10 (by omega) (by decide) (by decide)
  have hcl : Hid (∀ (i : Nat) (W : World), i < 128 → Below (w.heap.size + 2) ((w.alloc (.cells #[.int .u64 lo] 22)).alloc (.cells #[.int .u64 hi] 22)) W → Calls Tryd.prog 99 (#[.int .i64 i] ++ #[.pointer (some ⟨w.heap.size, 0, none⟩), .pointer (some ⟨w.heap.size + 1, 0, none⟩)]) W
      (fun e W' => e = .returned (.bool ((lo + hi * 18446744073709551616).testBit i)) ∧ Below W.heap.size W W')) := by
    intro i W hi128 hW
    have c0 : W.cell? ⟨w.heap.size, 0, none⟩ = some (.int .u64 lo) := by
      rw [hW.cell (p := ⟨w.heap.size, 0, none⟩) (by simp), World.cell?_alloc_past _ _ _ (by simp), World.cell?_alloc_at _ _ _ _ rfl]; rfl
    have c1 : W.cell? ⟨w.heap.size + 1, 0, none⟩ = some (.int .u64 hi) := by
      rw [hW.cell (p := ⟨w.heap.size + 1, 0, none⟩) (by simp), World.cell?_alloc_at _ _ _ _ (by simp)]; rfl
    rw [whole_bit lo hi i hlo]
    split
    · exact (whole1_lo lo i _ _ W (by assumption) hlo c0).mono fun e w' ⟨he, hw⟩ => ⟨he, by rw [hw]; exact Below.refl _ _⟩
    · exact (whole1_hi hi i _ _ W (by omega) hi128 hhi c1).mono fun e w' ⟨he, hw⟩ => ⟨he, by rw [hw]; exact Below.refl _ _⟩
  have HC := Lib.hid (spec_OfBits.calls ((w.alloc (.cells #[.int .u64 lo] 22)).alloc (.cells #[.int .u64 hi] 22)) 99 #[.pointer (some ⟨w.heap.size, 0, none⟩), .pointer (some ⟨w.heap.size + 1, 0, none⟩)] _
    (fun _ _ => rfl) (by simpa using hcl) 10 _ hr)
  clear hr hof hm hcl hlo hhi h
  go_enter Tryd.func45, Tryd.ntmps45
  go_wp2_with fail
  refine HC.out.mono ?_
  rintro e w1 ⟨v0, rfl, hv, hb⟩
  have HV := Lib.hid hv
  have HB := Lib.hid hb
  clear hv hb HC
  go_wp2
  go_ret
  refine ⟨_, rfl, Kd.V_mono HV.out (fun q hq => by simp at hq; omega), ?_⟩
  exact (((Below.refl w.heap.size w).alloc (Nat.le_refl _) _).alloc (by simp) _).trans (HB.out.mono (by simp; omega))
/-! ### laws_wideWhole: function 18 -/
def laws_wideWhole.f (a0_0 : Int) (a0_1 : Int) : Option (List Int) := (spec_Whole.f a0_0 a0_1).bind fun t115 => (some t115)
set_option maxHeartbeats 8000000 in
set_option maxRecDepth 100000 in
theorem laws_wideWhole.calls (a0_0 : Int) (a0_1 : Int) (r : List Int) (w : World) (h : laws_wideWhole.f a0_0 a0_1 = some r) :
    Calls Tryd.prog 18 #[.agg #[.int .u64 a0_0, .int .u64 a0_1]] w fun e w' => ∃ v0_ : Value, e = .returned (v0_) ∧ Kd.V (Kd.int .i64) 3 w' w.heap.size (fun k_ => (w.heap.size ≤ k_)) v0_ r ∧ Below w.heap.size w w' := by
  have hu24 := Tryd.underlying24
  have HB := Aside0.mk (Below.refl w.heap.size w)
  have H : ((spec_Whole.f a0_0 a0_1).bind fun t115 => (some t115)) = some r := h
  clear h
  replace H := Option.bind_eq_some_iff.mp H
  obtain ⟨t115, A20, H⟩ := H
  replace H : (some t115) = some r := H
  have A2 := Aside0.mk A20
  clear A20
  obtain rfl := Option.some.inj H
  go_enter Tryd.func18, Tryd.ntmps18
  go_wp2_with (first | ((with_reducible refine gate_dst (N := 1) rfl ?_); refine box_event ?hg (N := 1) ?hd (cs := #[.int .u64 a0_0, .int .u64 a0_1]) (t := 24) ?hr ?_; (case hd => rfl); (case hg => rfl); (case hr => first | (go_simp; done) | (go_simp; rfl)); intro gb114 hg w3 hbox hb; have n0_ := Aside0.mk (below_step (by repeat (first | (with_reducible first | exact HB.out | apply below_alloc | apply pw_below_drewN | apply below_drew1) | exact HB.out)) hb); have n1_ := Aside0.mk (hbox); have n2_ := Aside0.mk ((by rw [hg]; exact (below_size (by repeat (first | (with_reducible first | exact HB.out | apply below_alloc | apply pw_below_drewN | apply below_drew1) | exact HB.out))) : w.heap.size ≤ gb114)); have n3_ := Aside0.mk ((by rw [hg]; exact (below_size (by repeat (first | (with_reducible first | exact HB.out | apply below_alloc | apply pw_below_drewN | apply below_drew1) | exact HB.out))) : w.heap.size ≤ gb114)); clear HB; have HB := n0_; have BK114 := n1_; have GW114 := n2_; have GE114 := n3_; clear n0_ n1_ n2_ n3_; clear hb hbox hg; have hcz4_0 : w3.cell? ⟨gb114, 0, none⟩ = some (.int .u64 a0_0) := (blk_cell BK114.out 0).trans rfl; have hcz4_1 : w3.cell? ⟨gb114, 1, none⟩ = some (.int .u64 a0_1) := (blk_cell BK114.out 1).trans rfl; have hfz4_0 := blk_frozen BK114.out 0; have hfz4_1 := blk_frozen BK114.out 1) | ((with_reducible refine gate_callee (f := 45) rfl ?_); refine goesL_ (some 7) rfl rfl Tryd.func45 (by kernel_rfl) rfl #[.int .u64 a0_0, .int .u64 a0_1] rfl (by (try simp only [List.map_toArray, List.map_cons, List.map_nil]); first | done | rfl | (simp only [List.length_drop, List.length_take]; rfl)) ?_; (with_reducible refine (spec_Whole.calls a0_0 a0_1 t115 _ A2.out).mono ?_); rintro e w5 ⟨v116, rfl, ho0, hb⟩; refine ⟨_, rfl, ?_⟩; have n0_ := Aside0.mk (Kd.V_lower (Kd.V_mono (ok' := fun k_ => (w.heap.size ≤ k_) ∧ k_ ≠ gb114) ho0 (fun k_ hk_ => ⟨(Nat.le_trans (below_size (by repeat (first | (with_reducible first | exact HB.out | apply below_alloc | apply pw_below_drewN | apply below_drew1 | refine below_set ?_ GE114.out) | exact HB.out))) hk_), (Kd.freshB (g := gb114) (o := .cells #[.int .u64 a0_0, .int .u64 a0_1] 24 (0, 0)) (by exact BK114.out) k_ hk_)⟩)) (below_size (by repeat (first | (with_reducible first | exact HB.out | apply below_alloc | apply pw_below_drewN | apply below_drew1 | refine below_set ?_ GE114.out) | exact HB.out)))); have n1_ := Aside0.mk (blk_below (g := gb114) (o := .cells #[.int .u64 a0_0, .int .u64 a0_1] 24 (0, 0)) (by exact BK114.out) hb); have n2_ := Aside0.mk (below_step (by repeat (first | (with_reducible first | exact HB.out | apply below_alloc | apply pw_below_drewN | apply below_drew1 | refine below_set ?_ GE114.out) | exact HB.out)) hb); clear BK114; clear HB; have HO117 := n0_; have BK114 := n1_; have HB := n2_; clear n0_ n1_ n2_; (try clear hb); (try clear hb2); (try clear hk); (try clear hi); (try clear ho0)))
  go_ret
  exact ⟨_, by first | rfl | (simp [errW_none, errW_some] <;> rfl) | (simp [*, errW_none, errW_some] <;> rfl), by (with_reducible repeat (first | apply Kd.V_alloc | apply Kd.V_drewN | apply Kd.V_drew)); exact Kd.V_mono HO117.out (fun _ hk => hk.1), by repeat (first | (with_reducible first | exact HB.out | apply below_alloc | apply pw_below_drewN | apply below_drew1 | refine below_set ?_ GE114.out) | exact HB.out)⟩
/-! ### impl_Wide_52: function 52 -/
theorem q_box (w : World) (o : Obj) : (w.alloc o).heap[w.heap.size]? = some o ∧ Below w.heap.size w (w.alloc o) ∧ (w.alloc o).heap.size = w.heap.size + 1 :=
  ⟨(MapKept.heap_alloc w _).1, (Below.refl _ _).alloc (Nat.le_refl _) _, World.size_alloc _ _⟩
theorem q_on {w W W' : World} {n : Nat} (h : Below n w W) (hn : n ≤ W.heap.size) (h' : Below W.heap.size W W') : Below n w W' := h.trans (h'.mono hn)
theorem q_blk {W W' : World} {g : Nat} {o : Obj} (h : W.heap[g]? = some o) (h' : Below W.heap.size W W') : W'.heap[g]? = some o := (h'.block _ (blk_lt h)).trans h
theorem q_set2 {W : World} {g T : Nat} {x y : Value} (h : W.heap[g]? = some (.cells #[x, y] T (0, 0))) (u v : Value) : ((W.setCell ⟨g, 0, none⟩ u).setCell ⟨g, 1, none⟩ v).heap[g]? = some (.cells #[u, v] T (0, 0)) := blk_put (blk_set h 0 u) 1 v rfl
theorem q_far2 {W : World} {g k T : Nat} {cs : Array Value} (h : W.heap[k]? = some (.cells cs T (0, 0))) (hne : k ≠ g) (u v : Value) : ((W.setCell ⟨g, 0, none⟩ u).setCell ⟨g, 1, none⟩ v).heap[k]? = some (.cells cs T (0, 0)) := blk_far (blk_far h (p := ⟨g, 0, none⟩) hne u) (p := ⟨g, 1, none⟩) hne v
theorem q_set4 {W : World} {g T : Nat} {x y z s : Value} (h : W.heap[g]? = some (.cells #[x, y, z, s] T (0, 0))) (u v m n : Value) : ((((W.setCell ⟨g, 0, none⟩ u).setCell ⟨g, 1, none⟩ v).setCell ⟨g, 2, none⟩ m).setCell ⟨g, 3, none⟩ n).heap[g]? = some (.cells #[u, v, m, n] T (0, 0)) := blk_put (blk_set (blk_set (blk_set h 0 u) 1 v) 2 m) 3 n rfl
theorem q_far4 {W : World} {g k T : Nat} {cs : Array Value} (h : W.heap[k]? = some (.cells cs T (0, 0))) (hne : k ≠ g) (u v m n : Value) : ((((W.setCell ⟨g, 0, none⟩ u).setCell ⟨g, 1, none⟩ v).setCell ⟨g, 2, none⟩ m).setCell ⟨g, 3, none⟩ n).heap[k]? = some (.cells cs T (0, 0)) := blk_far (p := ⟨g, 3, none⟩) (blk_far (p := ⟨g, 2, none⟩) (q_far2 h hne u v) hne m) hne n
/-- A call that returns or panics, in a region that draws its order. -/
theorem rgoes_ {P : Program} {ops : Array Oper} {Q : Exit → Act → World → Prop} {oi : Oper} {N : Option Tmp} {a : Act} {w : World} {K : Act → World → Prop} {f : FuncId} {fn : Func} {as1 : Array Operand} {ts : Array TypeId} (hf : P.funcs[f]? = some fn) (hname : (fn.name == "runtime.NumGoroutine") = false) (hb : fn.body.isSome = true) (args : Array Value)
    (hw : Region.wanted oi (yielded ops a.tmps) = true) (hN : oi.dst = N) (hop : oi.op = .call { callee := .value (.func f), args := as1, argTypes := ts }) (hargs : as1.map a.eval = args)
    (h : Calls P f args w fun e w' => (∃ v, e = .returned v ∧ K (a.put N v) w') ∨ (∃ c, e = .panicked c ∧ Q (.panic c) a w')) : if Region.wanted oi (yielded ops a.tmps) = true then Oper.wp P oi a w K Q else K (a.put N undef) w := by
  subst hN
  rw [if_pos hw]
  have he := enters_ hf hname hb args w
  have hrun : (execOp a.eval oi).run P w = .ok (.enter f args) w := by
    unfold execOp
    simp [hop, resolve, Deferred.ofValue, invoke, Act.eval, hargs, he]
  unfold Oper.wp
  rw [hrun, Oper.upon_enter]
  refine h.mono fun e w'' hh => ?_
  obtain ⟨v, rfl, hk⟩ | ⟨c, rfl, hk⟩ := hh
  · exact hk
  · exact hk
theorem tried4_idle (p q : Addr) (w : World) :
    CallsD Tryd.prog 103 #[.pointer (some p), .pointer (some q)] .returning w fun e u' w' => e = .returned (.tuple #[]) ∧ u' = .returning ∧ w' = w := by
  refine callsD_of_wpS Tryd.func103 rfl fun c₀ cs hu => ?_
  apply wpS_seq
  apply wpS_region
  simp [wpOpsS, go_sem, recoverD, hu, Tryd.ntmps103, Exit.thenS]
  refine wpS_cond (t := false) (by simp [Act.eval, Array.replicate]) ?_
  simp only [Bool.false_eq_true, if_false]
  refine wpS_of_wp (wp_skip ?_)
  cases c₀
  simp_all [bodyPostS, results, Tryd.results103]
theorem tried4_catch (g : Nat) (y0 y1 y2 y3 : Int) (y : Bool) (u : TypeId) (pv : Value) (older : List PanicEntry) (w : World)
    (hg : w.heap[g]? = some (.cells #[.int .u64 y0, .int .u64 y1, .int .u64 y2, .int .u64 y3] 75 (0, 0))) (hh : w.heap[g + 1]? = some (.cells #[.bool y] 4 (0, 0))) :
    CallsD Tryd.prog 103 #[.pointer (some ⟨g, 0, none⟩), .pointer (some ⟨g + 1, 0, none⟩)] (.panicking ({ v := .iface u pv, recovered := false } :: older)) w fun e u' w' =>
      e = .returned (.tuple #[]) ∧ u' = .panicking ({ v := .iface u pv, recovered := true } :: older) ∧
      w'.heap[g]? = some (.cells #[.int .u64 0, .int .u64 0, .int .u64 0, .int .u64 0] 75 (0, 0)) ∧ w'.heap[g + 1]? = some (.cells #[.bool false] 4 (0, 0)) ∧ Below g w w' := by
  have hp0 : w.cell? ⟨g, 0, none⟩ = some (.int .u64 y0) := by rw [blk_cell hg]; rfl
  have hp1 : w.cell? ⟨g, 1, none⟩ = some (.int .u64 y1) := by rw [blk_cell hg]; rfl
  have hp2 : w.cell? ⟨g, 2, none⟩ = some (.int .u64 y2) := by rw [blk_cell hg]; rfl
  have hp3 : w.cell? ⟨g, 3, none⟩ = some (.int .u64 y3) := by rw [blk_cell hg]; rfl
  have hq : w.cell? ⟨g + 1, 0, none⟩ = some (.bool y) := by rw [blk_cell hh]; rfl
  have fp0 : w.frozen? ⟨g, 0, none⟩ = false := blk_frozen hg 0
  have fp1 : w.frozen? ⟨g, 1, none⟩ = false := blk_frozen hg 1
  have fp2 : w.frozen? ⟨g, 2, none⟩ = false := blk_frozen hg 2
  have fp3 : w.frozen? ⟨g, 3, none⟩ = false := blk_frozen hg 3
  have fq : w.frozen? ⟨g + 1, 0, none⟩ = false := blk_frozen hh 0
  have lg := blk_lt hg
  have lh := blk_lt hh
  have HG := Lib.hid hg
  have HH := Lib.hid hh
  clear hg hh
  refine callsD_of_wpS Tryd.func103 rfl fun c₀ cs hu => ?_
  apply wpS_seq
  apply wpS_region
  simp [wpOpsS, go_sem, recoverD, hu, Tryd.ntmps103, Exit.thenS]
  refine wpS_cond (t := true) (by simp [Act.eval, Array.replicate]) ?_
  simp only [if_true]
  refine wpS_of_wp ?_
  simp [Array.replicate]
  go_wp2
  have k0 := (blk_set (blk_set (blk_set (blk_set HG.out 0 (.int .u64 0)) 1 (.int .u64 0)) 2 (.int .u64 0)) 3 (.int .u64 0))
  have k1 := blk_far (p := ⟨g + 1, 0, none⟩) k0 (by simp) (.bool false)
  have k2 := (blk_far (p := ⟨g, 3, none⟩) (blk_far (p := ⟨g, 2, none⟩) (blk_far (p := ⟨g, 1, none⟩) (blk_far (p := ⟨g, 0, none⟩) HH.out (by simp) (.int .u64 0)) (by simp) (.int .u64 0)) (by simp) (.int .u64 0)) (by simp) (.int .u64 0))
  have k3 := blk_set k2 0 (.bool false)
  have HF : (((((w.setCell ⟨g, 0, none⟩ (.int .u64 0)).setCell ⟨g, 1, none⟩ (.int .u64 0)).setCell ⟨g, 2, none⟩ (.int .u64 0)).setCell ⟨g, 3, none⟩ (.int .u64 0)).setCell ⟨g + 1, 0, none⟩ (Value.bool false)).heap.size = w.heap.size := by simp [World.setCell]
  have f1 := blk_alloc k1 (.cells #[.int .u64 0, .int .u64 0, .int .u64 0, .int .u64 0] 75)
  have f2 := blk_alloc k3 (.cells #[.int .u64 0, .int .u64 0, .int .u64 0, .int .u64 0] 75)
  have f3 : Below g w ((((((w.setCell ⟨g, 0, none⟩ (.int .u64 0)).setCell ⟨g, 1, none⟩ (.int .u64 0)).setCell ⟨g, 2, none⟩ (.int .u64 0)).setCell ⟨g, 3, none⟩ (.int .u64 0)).setCell ⟨g + 1, 0, none⟩ (Value.bool false)).alloc (.cells #[.int .u64 0, .int .u64 0, .int .u64 0, .int .u64 0] 75)) :=
    (((((((Below.refl g w).setCell (p := ⟨g, 0, none⟩) (Nat.le_refl _) _).setCell (p := ⟨g, 1, none⟩) (Nat.le_refl _) _).setCell (p := ⟨g, 2, none⟩) (Nat.le_refl _) _).setCell (p := ⟨g, 3, none⟩) (Nat.le_refl _) _).setCell (p := ⟨g + 1, 0, none⟩) (by simp) _).alloc (by rw [HF]; omega) _)
  exact ⟨rfl, _, rfl, .tuple #[], results_none rfl _ _ _, rfl, rfl, f1, f2, f3⟩
set_option maxHeartbeats 4000000 in
set_option maxRecDepth 100000 in
theorem tried4 (fid : Nat) (caps : Array Value) (t : Bool) (x0 x1 x2 x3 : Int) (w : World)
    (hcf : ∀ (args : Array Value) (w : World), (callFunc fid args).run Tryd.prog w = .ok (.enter fid args) w) (hx : t = false → x0 = 0 ∧ x1 = 0 ∧ x2 = 0 ∧ x3 = 0)
    (hcl : Hid (∀ W : World, Below w.heap.size w W → Calls Tryd.prog fid caps W fun e W' => ((t = true ∧ e = .returned (.agg #[.int .u64 x0, .int .u64 x1, .int .u64 x2, .int .u64 x3])) ∨ (t = false ∧ ∃ pv, e = .panicked [{ v := .iface 104 pv, recovered := false }])) ∧ Below W.heap.size W W')) :
    Calls Tryd.prog 52 #[.func (.func fid) #[] caps] w fun e w' => e = .returned (.tuple #[(.agg #[.int .u64 x0, .int .u64 x1, .int .u64 x2, .int .u64 x3]), .bool t]) ∧ Below w.heap.size w w' := by
  have hmf : ∀ (fn : Fn) (first cap : Array Value) (w : World), (Instr.makeFunc fn first cap).run Tryd.prog w = .ok (.func fn first cap) w := fun _ _ _ _ => rfl
  have HX := Lib.hid hx
  clear hx
  go_enter_defers Tryd.func52, Tryd.ntmps52
  go_wp2_with fail
  refine (hcl.out _ (((Below.refl w.heap.size w).alloc (Nat.le_refl _) _).alloc (by simp) _)).mono ?_
  rintro e w1 ⟨ho, hb⟩
  have g0 : w1.heap[w.heap.size]? = some (.cells #[.int .u64 0, .int .u64 0, .int .u64 0, .int .u64 0] 75 (0, 0)) := (hb.block _ (by simp; omega)).trans (blk_alloc (MapKept.heap_alloc w _).1 _)
  have g1 : w1.heap[w.heap.size + 1]? = some (.cells #[.bool false] 4 (0, 0)) := (hb.block _ (by simp)).trans (by have := (MapKept.heap_alloc (w.alloc (.cells #[.int .u64 0, .int .u64 0, .int .u64 0, .int .u64 0] 75)) (Obj.cells #[Value.bool false] 4)).1; simpa using this)
  have B : Below w.heap.size w w1 := (((Below.refl w.heap.size w).alloc (Nat.le_refl _) _).alloc (by simp) _).trans (hb.mono (by simp; omega))
  have HB := Lib.hid B
  have G0 := Lib.hid g0
  have G1 := Lib.hid g1
  clear hb g0 g1 B
  obtain ⟨rfl, rfl⟩ | ⟨rfl, pv, rfl⟩ := ho
  · have c0 : w1.cell? ⟨w.heap.size, 0, none⟩ = some (.int .u64 0) := by rw [blk_cell G0.out]; rfl
    have c1 : w1.cell? ⟨w.heap.size, 1, none⟩ = some (.int .u64 0) := by rw [blk_cell G0.out]; rfl
    have c2 : w1.cell? ⟨w.heap.size, 2, none⟩ = some (.int .u64 0) := by rw [blk_cell G0.out]; rfl
    have c3 : w1.cell? ⟨w.heap.size, 3, none⟩ = some (.int .u64 0) := by rw [blk_cell G0.out]; rfl
    have cb : w1.cell? ⟨w.heap.size + 1, 0, none⟩ = some (.bool false) := by rw [blk_cell G1.out]; rfl
    have z0 : w1.frozen? ⟨w.heap.size, 0, none⟩ = false := blk_frozen G0.out 0
    have z1 : w1.frozen? ⟨w.heap.size, 1, none⟩ = false := blk_frozen G0.out 1
    have z2 : w1.frozen? ⟨w.heap.size, 2, none⟩ = false := blk_frozen G0.out 2
    have z3 : w1.frozen? ⟨w.heap.size, 3, none⟩ = false := blk_frozen G0.out 3
    have zb : w1.frozen? ⟨w.heap.size + 1, 0, none⟩ = false := blk_frozen G1.out 0
    go_wp2
    have B := HB.out
    have k0 := blk_far (p := ⟨w.heap.size + 1, 0, none⟩) (blk_set (blk_set (blk_set (blk_set G0.out 0 (.int .u64 x0)) 1 (.int .u64 x1)) 2 (.int .u64 x2)) 3 (.int .u64 x3)) (by simp) (.bool true)
    have k1 := blk_set (blk_far (p := ⟨w.heap.size, 3, none⟩) (blk_far (p := ⟨w.heap.size, 2, none⟩) (blk_far (p := ⟨w.heap.size, 1, none⟩) (blk_far (p := ⟨w.heap.size, 0, none⟩) G1.out (by simp) (.int .u64 x0)) (by simp) (.int .u64 x1)) (by simp) (.int .u64 x2)) (by simp) (.int .u64 x3)) 0 (.bool true)
    refine leaves_cons (f := 103) (args := #[.pointer (some ⟨w.heap.size, 0, none⟩), .pointer (some ⟨w.heap.size + 1, 0, none⟩)]) (by simp) (by simp [go_sem]) ?_
    refine (tried4_idle _ _ _).mono ?_
    rintro e u' w'' ⟨rfl, rfl, rfl⟩
    refine ⟨.tuple #[(.agg #[.int .u64 x0, .int .u64 x1, .int .u64 x2, .int .u64 x3]), .bool true], ?_, rfl, ((((B.setCell (p := ⟨w.heap.size, 0, none⟩) (Nat.le_refl _) _).setCell (p := ⟨w.heap.size, 1, none⟩) (Nat.le_refl _) _).setCell (p := ⟨w.heap.size, 2, none⟩) (Nat.le_refl _) _).setCell (p := ⟨w.heap.size, 3, none⟩) (Nat.le_refl _) _).setCell (p := ⟨w.heap.size + 1, 0, none⟩) (by simp) _⟩
    have d0 := (blk_cell k0 0).trans (show _ = some (.int .u64 x0) from rfl)
    have d1 := (blk_cell k0 1).trans (show _ = some (.int .u64 x1) from rfl)
    have d2 := (blk_cell k0 2).trans (show _ = some (.int .u64 x2) from rfl)
    have d3 := (blk_cell k0 3).trans (show _ = some (.int .u64 x3) from rfl)
    have d4 := (blk_cell k1 0).trans (show _ = some (.bool true) from rfl)
    clear k0 k1
    generalize ((((w1.setCell _ _).setCell _ _).setCell _ _).setCell _ _).setCell _ _ = W at d0 d1 d2 d3 d4 ⊢
    simp [results, Tryd.results52, go_sem, d0, d1, d2, d3, d4]
  · obtain ⟨rfl, rfl, rfl, rfl⟩ := HX.out rfl
    refine leaves_cons (f := 103) (args := #[.pointer (some ⟨w.heap.size, 0, none⟩), .pointer (some ⟨w.heap.size + 1, 0, none⟩)]) (by simp) (by simp [go_sem]) ?_
    refine (tried4_catch w.heap.size 0 0 0 0 false 104 pv [] w1 G0.out G1.out).mono ?_
    rintro e u' w2 ⟨rfl, rfl, k0, k1, hb2⟩
    refine ⟨.tuple #[(.agg #[.int .u64 0, .int .u64 0, .int .u64 0, .int .u64 0]), .bool false], ?_, rfl, HB.out.trans hb2⟩
    have d0 := (blk_cell k0 0).trans (show _ = some (.int .u64 0) from rfl)
    have d1 := (blk_cell k0 1).trans (show _ = some (.int .u64 0) from rfl)
    have d2 := (blk_cell k0 2).trans (show _ = some (.int .u64 0) from rfl)
    have d3 := (blk_cell k0 3).trans (show _ = some (.int .u64 0) from rfl)
    have d4 := (blk_cell k1 0).trans (show _ = some (.bool false) from rfl)
    clear k0 k1
    simp [results, Tryd.results52, go_sem, d0, d1, d2, d3, d4]
/-! ### impl_Wide_u: function 46 -/
def impl_Wide_u.f (a0_0 : Int) (a0_1 : Int) : Option (Int × Int) := some (a0_0, a0_1)
set_option maxHeartbeats 8000000 in
set_option maxRecDepth 100000 in
theorem impl_Wide_u.calls (a0_0 : Int) (a0_1 : Int) (r1 : Int) (r2 : Int) (w : World) (h : impl_Wide_u.f a0_0 a0_1 = some (r1, r2)) :
    Calls Tryd.prog 46 #[.agg #[.int .u64 a0_0, .int .u64 a0_1]] w fun e w' => e = .returned (.agg #[.int .u64 r1, .int .u64 r2]) ∧ Below w.heap.size w w' := by
  have hu24 := Tryd.underlying24
  have hu65 := Tryd.underlying65
  have HB := Aside0.mk (Below.refl w.heap.size w)
  have H : (some (a0_0, a0_1)) = some (r1, r2) := h
  clear h
  simp only [Option.some.injEq, Prod.mk.injEq] at H
  obtain ⟨rfl, rfl⟩ := H
  go_enter Tryd.func46, Tryd.ntmps46
  go_wp2_with (first | ((with_reducible refine gate_dst (N := 1) rfl ?_); refine box_event ?hg (N := 1) ?hd (cs := #[.int .u64 a0_0, .int .u64 a0_1]) (t := 24) ?hr ?_; (case hd => rfl); (case hg => rfl); (case hr => first | (go_simp; done) | (go_simp; rfl)); intro gb249 hg w2 hbox hb; have n0_ := Aside0.mk (below_step (by repeat (first | (with_reducible first | exact HB.out | apply below_alloc | apply pw_below_drewN | apply below_drew1) | exact HB.out)) hb); have n1_ := Aside0.mk (hbox); have n2_ := Aside0.mk ((by rw [hg]; exact (below_size (by repeat (first | (with_reducible first | exact HB.out | apply below_alloc | apply pw_below_drewN | apply below_drew1) | exact HB.out))) : w.heap.size ≤ gb249)); have n3_ := Aside0.mk ((by rw [hg]; exact (below_size (by repeat (first | (with_reducible first | exact HB.out | apply below_alloc | apply pw_below_drewN | apply below_drew1) | exact HB.out))) : w.heap.size ≤ gb249)); clear HB; have HB := n0_; have BK249 := n1_; have GW249 := n2_; have GE249 := n3_; clear n0_ n1_ n2_ n3_; clear hb hbox hg) | ((with_reducible refine gate_dst (N := 2) rfl ?_); refine box_event ?hg (N := 2) ?hd (cs := #[.int .u64 0, .int .u64 0]) (t := 65) ?hr ?_; (case hd => rfl); (case hg => rfl); (case hr => first | (go_simp; done) | (go_simp; rfl)); intro gb250 hg w3 hbox hb; have n0_ := Aside0.mk (blk_below (g := gb249) (o := .cells #[.int .u64 a0_0, .int .u64 a0_1] 24 (0, 0)) (by exact BK249.out) hb); have n1_ := Aside0.mk (below_step (by repeat (first | (with_reducible first | exact HB.out | apply below_alloc | apply pw_below_drewN | apply below_drew1 | refine below_set ?_ GE249.out) | exact HB.out)) hb); have n2_ := Aside0.mk (hbox); have n3_ := Aside0.mk ((by rw [hg]; exact (below_size (by repeat (first | (with_reducible first | exact HB.out | apply below_alloc | apply pw_below_drewN | apply below_drew1 | refine below_set ?_ GE249.out) | exact HB.out))) : w.heap.size ≤ gb250)); have n4_ := Aside0.mk ((by rw [hg]; exact (below_size (by repeat (first | (with_reducible first | exact HB.out | apply below_alloc | apply pw_below_drewN | apply below_drew1 | refine below_set ?_ GE249.out) | exact HB.out))) : w.heap.size ≤ gb250)); have n5_ := Aside0.mk ((by rw [hg]; exact Nat.ne_of_lt (blk_lt (g := gb249) (o := .cells #[.int .u64 a0_0, .int .u64 a0_1] 24 (0, 0)) (by exact BK249.out)) : gb249 ≠ gb250)); have n6_ := Aside0.mk ((by rw [hg]; exact Nat.ne_of_gt (blk_lt (g := gb249) (o := .cells #[.int .u64 a0_0, .int .u64 a0_1] 24 (0, 0)) (by exact BK249.out)) : gb250 ≠ gb249)); clear BK249; clear HB; have BK249 := n0_; have HB := n1_; have BK250 := n2_; have GW250 := n3_; have GE250 := n4_; have NB249_250 := n5_; have NB250_249 := n6_; clear n0_ n1_ n2_ n3_ n4_ n5_ n6_; clear hb hbox hg; have hnb4 := NB249_250.out; have hnc4 := NB250_249.out; have hcz5_0 : w3.cell? ⟨gb249, 0, none⟩ = some (.int .u64 a0_0) := (blk_cell BK249.out 0).trans rfl; have hcz5_1 : w3.cell? ⟨gb249, 1, none⟩ = some (.int .u64 a0_1) := (blk_cell BK249.out 1).trans rfl; have hfz5_0 := blk_frozen BK249.out 0; have hfz5_1 := blk_frozen BK249.out 1; have hcz6_0 : w3.cell? ⟨gb250, 0, none⟩ = some (.int .u64 0) := (blk_cell BK250.out 0).trans rfl; have hcz6_1 : w3.cell? ⟨gb250, 1, none⟩ = some (.int .u64 0) := (blk_cell BK250.out 1).trans rfl; have hfz6_0 := blk_frozen BK250.out 0; have hfz6_1 := blk_frozen BK250.out 1))
  refine bodyPost_ret (results_cell_row rfl _ _ gb250 65 #[.int .u64 a0_0, .int .u64 a0_1] (0, 0) _ rfl (by (with_reducible repeat (first | refine blk_drewN ?_ _ | refine blk_drew ?_ | refine blk_alloc ?_ _)); refine blk_put (cs := #[.int .u64 a0_0, .int .u64 0]) ?_ 1 _ rfl; (with_reducible repeat (first | refine blk_drewN ?_ _ | refine blk_drew ?_ | refine blk_alloc ?_ _)); refine blk_put (cs := #[.int .u64 0, .int .u64 0]) ?_ 0 _ rfl; (with_reducible repeat (first | refine blk_drewN ?_ _ | refine blk_drew ?_ | refine blk_alloc ?_ _)); exact BK250.out) Tryd.underlying65 rfl (by kernel_rfl)) rfl ?_
  exact ⟨by first | rfl | (simp [errW_none, errW_some] <;> rfl) | (simp [*, errW_none, errW_some] <;> rfl), by repeat (first | (with_reducible first | exact HB.out | apply below_alloc | apply pw_below_drewN | apply below_drew1 | refine below_set ?_ GE249.out | refine below_set ?_ GE250.out) | exact HB.out)⟩
/-! ### bits_Len64: function 116 -/
/-- The number of bits of n without zeros ahead. -/
def lenN (n : Nat) : Nat := if n = 0 then 0 else Nat.log2 n + 1
def len8 : ByteArray := ⟨#[0, 1, 2, 2, 3, 3, 3, 3, 4, 4, 4, 4, 4, 4, 4, 4, 5, 5, 5, 5, 5, 5, 5, 5, 5, 5, 5, 5, 5, 5, 5, 5, 6, 6, 6, 6, 6, 6, 6, 6, 6, 6, 6, 6, 6, 6, 6, 6, 6, 6, 6, 6, 6, 6, 6, 6, 6, 6, 6, 6, 6, 6, 6, 6, 7, 7, 7, 7, 7, 7, 7, 7, 7, 7, 7, 7, 7, 7, 7, 7, 7, 7, 7, 7, 7, 7, 7, 7, 7, 7, 7, 7, 7, 7, 7, 7, 7, 7, 7, 7, 7, 7, 7, 7, 7, 7, 7, 7, 7, 7, 7, 7, 7, 7, 7, 7, 7, 7, 7, 7, 7, 7, 7, 7, 7, 7, 7, 7, 8, 8, 8, 8, 8, 8, 8, 8, 8, 8, 8, 8, 8, 8, 8, 8, 8, 8, 8, 8, 8, 8, 8, 8, 8, 8, 8, 8, 8, 8, 8, 8, 8, 8, 8, 8, 8, 8, 8, 8, 8, 8, 8, 8, 8, 8, 8, 8, 8, 8, 8, 8, 8, 8, 8, 8, 8, 8, 8, 8, 8, 8, 8, 8, 8, 8, 8, 8, 8, 8, 8, 8, 8, 8, 8, 8, 8, 8, 8, 8, 8, 8, 8, 8, 8, 8, 8, 8, 8, 8, 8, 8, 8, 8, 8, 8, 8, 8, 8, 8, 8, 8, 8, 8, 8, 8, 8, 8, 8, 8, 8, 8, 8, 8, 8, 8, 8, 8, 8, 8, 8, 8, 8, 8, 8, 8, 8, 8]⟩
theorem len8_size : len8.size = 256 := by decide +kernel
theorem len8_all : (List.range 256).all (fun x => len8.data.toList.getD x 0 == UInt8.ofNat (lenN x)) = true := by decide +kernel
theorem lenN_8 (x : Nat) (h : x < 256) : lenN x ≤ 8 := by
  unfold lenN
  split
  · decide
  · rename_i h0
    have := (Nat.log2_lt h0 (k := 8)).mpr h
    omega
theorem len8_is (x : Nat) (h : x < len8.size) : (len8[x]'h).toNat = lenN x := by
  have hx : x < 256 := by rw [← len8_size]; exact h
  have a := List.all_eq_true.mp len8_all x (List.mem_range.mpr hx)
  rw [beq_iff_eq] at a
  have e : len8[x]'h = len8.data.toList.getD x 0 := by
    rw [List.getD_eq_getElem?_getD, Array.getElem?_toList, Array.getElem?_eq_getElem (by exact h)]
    rfl
  rw [e, a]
  have := lenN_8 x hx
  rw [UInt8.toNat_ofNat_of_lt' (by show lenN x < 256; omega)]
theorem w64n (n : Int) (h : 0 ≤ n ∧ n < 1000) : wrap64 n = n := by
  unfold wrap64
  omega
theorem lenN_div (x k : Nat) (h : 2 ^ k ≤ x) : lenN x = k + lenN (x / 2 ^ k) := by
  have h0 : 0 < 2 ^ k := Nat.pow_pos (by decide)
  have hx : x ≠ 0 := by omega
  have hq : x / 2 ^ k ≠ 0 := by
    have := Nat.div_pos h h0
    omega
  unfold lenN
  rw [if_neg hx, if_neg hq]
  have l1 := Nat.log2_self_le hq
  have l2 := Nat.lt_log2_self (n := x / 2 ^ k)
  generalize (x / 2 ^ k).log2 = l at *
  have e : x.log2 = k + l := by
    rw [Nat.log2_eq_iff hx, Nat.pow_add, Nat.add_assoc, Nat.pow_add]
    have d := Nat.div_add_mod x (2 ^ k)
    have m := Nat.mod_lt x h0
    constructor
    · have := Nat.mul_le_mul_left (2 ^ k) l1
      omega
    · have := Nat.mul_le_mul_left (2 ^ k) (show x / 2 ^ k + 1 ≤ 2 ^ (l + 1) by omega)
      rw [Nat.mul_add] at this
      omega
  omega
set_option maxHeartbeats 2000000 in
set_option maxRecDepth 100000 in
theorem len_000 (x : Nat) (w : World) (b0 : decide (4294967296 ≤ (x : Int)) = false) (b1 : decide (65536 ≤ (x : Int)) = false) (b2 : decide (256 ≤ (x : Int)) = false) (hv : x < 256) (e : (x : Int) % 256 = (x : Int)) :
    Calls Tryd.prog 116 #[.int .u64 (x : Int)] w fun e w' => e = .returned (.int .i64 ((0 + lenN x : Nat) : Int)) ∧ Drawn0 w w' := by
  go_enter Tryd.func116, Tryd.ntmps116
  go_wp2
  go_ret
  refine ⟨congrArg (fun z => Ending.returned (.int .i64 z)) ?_, Drawn0.refl _⟩
  have q := len8_is x (by rw [len8_size]; exact hv)
  have hb := lenN_8 x hv
  unfold len8 at q
  rw [q]
  clear q e hv b0 b1 b2
  generalize lenN x = r at *
  rw [w64n (r : Int) (by omega), w64n _ (by omega)]
  omega
set_option maxHeartbeats 2000000 in
set_option maxRecDepth 100000 in
theorem len_001 (x t : Nat) (w : World) (b0 : decide (4294967296 ≤ (x : Int)) = false) (b1 : decide (65536 ≤ (x : Int)) = false) (b2 : decide (256 ≤ (x : Int)) = true) (e2 : (x : Int) / 256 = (t : Int)) (hv : t < 256) (e : (t : Int) % 256 = (t : Int)) :
    Calls Tryd.prog 116 #[.int .u64 (x : Int)] w fun e w' => e = .returned (.int .i64 ((8 + lenN t : Nat) : Int)) ∧ Drawn0 w w' := by
  go_enter Tryd.func116, Tryd.ntmps116
  go_wp2
  go_ret
  refine ⟨congrArg (fun z => Ending.returned (.int .i64 z)) ?_, Drawn0.refl _⟩
  have q := len8_is t (by rw [len8_size]; exact hv)
  have hb := lenN_8 t hv
  unfold len8 at q
  rw [q]
  clear q e hv b0 b1 b2 e2
  generalize lenN t = r at *
  rw [w64n (r : Int) (by omega), w64n _ (by omega)]
  omega
set_option maxHeartbeats 2000000 in
set_option maxRecDepth 100000 in
theorem len_010 (x z : Nat) (w : World) (b0 : decide (4294967296 ≤ (x : Int)) = false) (b1 : decide (65536 ≤ (x : Int)) = true) (e1 : (x : Int) / 65536 = (z : Int)) (b2 : decide (256 ≤ (z : Int)) = false) (hv : z < 256) (e : (z : Int) % 256 = (z : Int)) :
    Calls Tryd.prog 116 #[.int .u64 (x : Int)] w fun e w' => e = .returned (.int .i64 ((16 + lenN z : Nat) : Int)) ∧ Drawn0 w w' := by
  go_enter Tryd.func116, Tryd.ntmps116
  go_wp2
  go_ret
  refine ⟨congrArg (fun z => Ending.returned (.int .i64 z)) ?_, Drawn0.refl _⟩
  have q := len8_is z (by rw [len8_size]; exact hv)
  have hb := lenN_8 z hv
  unfold len8 at q
  rw [q]
  clear q e hv b0 b1 b2 e1
  generalize lenN z = r at *
  rw [w64n (r : Int) (by omega), w64n _ (by omega)]
  omega
set_option maxHeartbeats 2000000 in
set_option maxRecDepth 100000 in
theorem len_011 (x z t : Nat) (w : World) (b0 : decide (4294967296 ≤ (x : Int)) = false) (b1 : decide (65536 ≤ (x : Int)) = true) (e1 : (x : Int) / 65536 = (z : Int)) (b2 : decide (256 ≤ (z : Int)) = true) (e2 : (z : Int) / 256 = (t : Int)) (hv : t < 256) (e : (t : Int) % 256 = (t : Int)) :
    Calls Tryd.prog 116 #[.int .u64 (x : Int)] w fun e w' => e = .returned (.int .i64 ((24 + lenN t : Nat) : Int)) ∧ Drawn0 w w' := by
  go_enter Tryd.func116, Tryd.ntmps116
  go_wp2
  go_ret
  refine ⟨congrArg (fun z => Ending.returned (.int .i64 z)) ?_, Drawn0.refl _⟩
  have q := len8_is t (by rw [len8_size]; exact hv)
  have hb := lenN_8 t hv
  unfold len8 at q
  rw [q]
  clear q e hv b0 b1 b2 e1 e2
  generalize lenN t = r at *
  rw [w64n (r : Int) (by omega), w64n _ (by omega)]
  omega
set_option maxHeartbeats 2000000 in
set_option maxRecDepth 100000 in
theorem len_100 (x y : Nat) (w : World) (b0 : decide (4294967296 ≤ (x : Int)) = true) (e0 : (x : Int) / 4294967296 = (y : Int)) (b1 : decide (65536 ≤ (y : Int)) = false) (b2 : decide (256 ≤ (y : Int)) = false) (hv : y < 256) (e : (y : Int) % 256 = (y : Int)) :
    Calls Tryd.prog 116 #[.int .u64 (x : Int)] w fun e w' => e = .returned (.int .i64 ((32 + lenN y : Nat) : Int)) ∧ Drawn0 w w' := by
  go_enter Tryd.func116, Tryd.ntmps116
  go_wp2
  go_ret
  refine ⟨congrArg (fun z => Ending.returned (.int .i64 z)) ?_, Drawn0.refl _⟩
  have q := len8_is y (by rw [len8_size]; exact hv)
  have hb := lenN_8 y hv
  unfold len8 at q
  rw [q]
  clear q e hv b0 b1 b2 e0
  generalize lenN y = r at *
  rw [w64n (r : Int) (by omega), w64n _ (by omega)]
  omega
set_option maxHeartbeats 2000000 in
set_option maxRecDepth 100000 in
theorem len_101 (x y t : Nat) (w : World) (b0 : decide (4294967296 ≤ (x : Int)) = true) (e0 : (x : Int) / 4294967296 = (y : Int)) (b1 : decide (65536 ≤ (y : Int)) = false) (b2 : decide (256 ≤ (y : Int)) = true) (e2 : (y : Int) / 256 = (t : Int)) (hv : t < 256) (e : (t : Int) % 256 = (t : Int)) :
    Calls Tryd.prog 116 #[.int .u64 (x : Int)] w fun e w' => e = .returned (.int .i64 ((40 + lenN t : Nat) : Int)) ∧ Drawn0 w w' := by
  go_enter Tryd.func116, Tryd.ntmps116
  go_wp2
  go_ret
  refine ⟨congrArg (fun z => Ending.returned (.int .i64 z)) ?_, Drawn0.refl _⟩
  have q := len8_is t (by rw [len8_size]; exact hv)
  have hb := lenN_8 t hv
  unfold len8 at q
  rw [q]
  clear q e hv b0 b1 b2 e0 e2
  generalize lenN t = r at *
  rw [w64n (r : Int) (by omega), w64n _ (by omega)]
  omega
set_option maxHeartbeats 2000000 in
set_option maxRecDepth 100000 in
theorem len_110 (x y z : Nat) (w : World) (b0 : decide (4294967296 ≤ (x : Int)) = true) (e0 : (x : Int) / 4294967296 = (y : Int)) (b1 : decide (65536 ≤ (y : Int)) = true) (e1 : (y : Int) / 65536 = (z : Int)) (b2 : decide (256 ≤ (z : Int)) = false) (hv : z < 256) (e : (z : Int) % 256 = (z : Int)) :
    Calls Tryd.prog 116 #[.int .u64 (x : Int)] w fun e w' => e = .returned (.int .i64 ((48 + lenN z : Nat) : Int)) ∧ Drawn0 w w' := by
  go_enter Tryd.func116, Tryd.ntmps116
  go_wp2
  go_ret
  refine ⟨congrArg (fun z => Ending.returned (.int .i64 z)) ?_, Drawn0.refl _⟩
  have q := len8_is z (by rw [len8_size]; exact hv)
  have hb := lenN_8 z hv
  unfold len8 at q
  rw [q]
  clear q e hv b0 b1 b2 e0 e1
  generalize lenN z = r at *
  rw [w64n (r : Int) (by omega), w64n _ (by omega)]
  omega
set_option maxHeartbeats 2000000 in
set_option maxRecDepth 100000 in
theorem len_111 (x y z t : Nat) (w : World) (b0 : decide (4294967296 ≤ (x : Int)) = true) (e0 : (x : Int) / 4294967296 = (y : Int)) (b1 : decide (65536 ≤ (y : Int)) = true) (e1 : (y : Int) / 65536 = (z : Int)) (b2 : decide (256 ≤ (z : Int)) = true) (e2 : (z : Int) / 256 = (t : Int)) (hv : t < 256) (e : (t : Int) % 256 = (t : Int)) :
    Calls Tryd.prog 116 #[.int .u64 (x : Int)] w fun e w' => e = .returned (.int .i64 ((56 + lenN t : Nat) : Int)) ∧ Drawn0 w w' := by
  go_enter Tryd.func116, Tryd.ntmps116
  go_wp2
  go_ret
  refine ⟨congrArg (fun z => Ending.returned (.int .i64 z)) ?_, Drawn0.refl _⟩
  have q := len8_is t (by rw [len8_size]; exact hv)
  have hb := lenN_8 t hv
  unfold len8 at q
  rw [q]
  clear q e hv b0 b1 b2 e0 e1 e2
  generalize lenN t = r at *
  rw [w64n (r : Int) (by omega), w64n _ (by omega)]
  omega
def bits_Len64.f (a0 : Int) : Option Int := if 0 ≤ a0 ∧ a0 < 18446744073709551616 then some ((lenN a0.toNat : Nat) : Int) else none
theorem bits_Len64.calls (a0 : Int) (r : Int) (w : World) (h : bits_Len64.f a0 = some r) :
    Calls Tryd.prog 116 #[.int .u64 a0] w fun e w' => e = .returned (.int .i64 r) ∧ Drawn0 w w' := by
  unfold bits_Len64.f at h
  split at h
  case isFalse => cases h
  rename_i h0
  obtain ⟨x, rfl⟩ := Int.eq_ofNat_of_zero_le h0.1
  rw [Int.toNat_natCast] at h
  obtain rfl := Option.some.inj h
  have hx : x < 18446744073709551616 := by omega
  clear h h0
  by_cases c0 : 4294967296 ≤ x
  · by_cases c1 : 65536 ≤ x / 4294967296
    · by_cases c2 : 256 ≤ x / 4294967296 / 65536
      · have ll : lenN x = 56 + lenN (((x / 4294967296) / 65536) / 256) := by
          rw [lenN_div x 32 (by omega), show (2 : Nat) ^ 32 = 4294967296 from rfl, lenN_div (x / 4294967296) 16 (by omega), show (2 : Nat) ^ 16 = 65536 from rfl, lenN_div ((x / 4294967296) / 65536) 8 (by omega), show (2 : Nat) ^ 8 = 256 from rfl]
          omega
        rw [ll]
        exact len_111 x (x / 4294967296) ((x / 4294967296) / 65536) (((x / 4294967296) / 65536) / 256) w (decide_eq_true (by omega)) (by omega) (decide_eq_true (by omega)) (by omega) (decide_eq_true (by omega)) (by omega) (by omega) (by omega)
      · have ll : lenN x = 48 + lenN ((x / 4294967296) / 65536) := by
          rw [lenN_div x 32 (by omega), show (2 : Nat) ^ 32 = 4294967296 from rfl, lenN_div (x / 4294967296) 16 (by omega), show (2 : Nat) ^ 16 = 65536 from rfl]
          omega
        rw [ll]
        exact len_110 x (x / 4294967296) ((x / 4294967296) / 65536) w (decide_eq_true (by omega)) (by omega) (decide_eq_true (by omega)) (by omega) (decide_eq_false (by omega)) (by omega) (by omega)
    · by_cases c2 : 256 ≤ x / 4294967296
      · have ll : lenN x = 40 + lenN ((x / 4294967296) / 256) := by
          rw [lenN_div x 32 (by omega), show (2 : Nat) ^ 32 = 4294967296 from rfl, lenN_div (x / 4294967296) 8 (by omega), show (2 : Nat) ^ 8 = 256 from rfl]
          omega
        rw [ll]
        exact len_101 x (x / 4294967296) ((x / 4294967296) / 256) w (decide_eq_true (by omega)) (by omega) (decide_eq_false (by omega)) (decide_eq_true (by omega)) (by omega) (by omega) (by omega)
      · have ll : lenN x = 32 + lenN (x / 4294967296) := by
          rw [lenN_div x 32 (by omega), show (2 : Nat) ^ 32 = 4294967296 from rfl]
        rw [ll]
        exact len_100 x (x / 4294967296) w (decide_eq_true (by omega)) (by omega) (decide_eq_false (by omega)) (decide_eq_false (by omega)) (by omega) (by omega)
  · by_cases c1 : 65536 ≤ x
    · by_cases c2 : 256 ≤ x / 65536
      · have ll : lenN x = 24 + lenN ((x / 65536) / 256) := by
          rw [lenN_div x 16 (by omega), show (2 : Nat) ^ 16 = 65536 from rfl, lenN_div (x / 65536) 8 (by omega), show (2 : Nat) ^ 8 = 256 from rfl]
          omega
        rw [ll]
        exact len_011 x (x / 65536) ((x / 65536) / 256) w (decide_eq_false (by omega)) (decide_eq_true (by omega)) (by omega) (decide_eq_true (by omega)) (by omega) (by omega) (by omega)
      · have ll : lenN x = 16 + lenN (x / 65536) := by
          rw [lenN_div x 16 (by omega), show (2 : Nat) ^ 16 = 65536 from rfl]
        rw [ll]
        exact len_010 x (x / 65536) w (decide_eq_false (by omega)) (decide_eq_true (by omega)) (by omega) (decide_eq_false (by omega)) (by omega) (by omega)
    · by_cases c2 : 256 ≤ x
      · have ll : lenN x = 8 + lenN (x / 256) := by
          rw [lenN_div x 8 (by omega), show (2 : Nat) ^ 8 = 256 from rfl]
        rw [ll]
        exact len_001 x (x / 256) w (decide_eq_false (by omega)) (decide_eq_false (by omega)) (decide_eq_true (by omega)) (by omega) (by omega) (by omega)
      · rw [show lenN x = 0 + lenN x by omega]
        exact len_000 x w (decide_eq_false (by omega)) (decide_eq_false (by omega)) (decide_eq_false (by omega)) (by omega) (by omega)
/-! ### bits_LeadingZeros64: function 100 -/
def bits_LeadingZeros64.f (a0 : Int) : Option (Int) := (bits_Len64.f a0).bind fun t283 => (some (wrap64 (64 - t283)))
set_option maxHeartbeats 8000000 in
set_option maxRecDepth 100000 in
theorem bits_LeadingZeros64.calls (a0 : Int) (r : Int) (w : World) (h : bits_LeadingZeros64.f a0 = some r) :
    Calls Tryd.prog 100 #[.int .u64 a0] w fun e w' => e = .returned (.int .i64 r) ∧ Drawn0 w w' := by
  have H : ((bits_Len64.f a0).bind fun t283 => (some (wrap64 (64 - t283)))) = some r := h
  clear h
  replace H := Option.bind_eq_some_iff.mp H
  obtain ⟨t283, A20, H⟩ := H
  replace H : (some (wrap64 (64 - t283))) = some r := H
  have A2 := Aside0.mk A20
  clear A20
  obtain rfl := Option.some.inj H
  go_enter Tryd.func100, Tryd.ntmps100
  go_wp2_with (first | ((with_reducible refine gate_callee (f := 116) rfl ?_); refine goesL_ (some 4) rfl rfl Tryd.func116 (by kernel_rfl) rfl #[.int .u64 a0] rfl (by (try simp only [List.map_toArray, List.map_cons, List.map_nil]); first | done | rfl | (simp only [List.length_drop, List.length_take]; rfl)) ?_; (with_reducible refine (bits_Len64.calls a0 t283 _ A2.out).mono ?_); rintro e w' ⟨rfl, ⟨nd, rfl⟩⟩; refine ⟨_, rfl, ?_⟩))
  go_ret
  exact ⟨by first | rfl | (simp; done) | (simp [*]; done), by repeat (first | exact Drawn0.refl _ | apply Drawn0.step)⟩
end Go.Proofs.YtiifnofghicnaaaDoor.PAll
