/- FnWideText: impl.WideText, and the law's function. Printed by gen/text.py. -/
import Derived.Test.YtiifnofghicnaaaDoorString
import Derived.Test.YtiifnofghicnaaaDoorRows
import Derived.Test.YtiifnofghicnaaaDoorQAllx2
namespace Go.Proofs.YtiifnofghicnaaaDoor.PAll
open Go.RowKit Go.Proofs.YtiifnofghicnaaaDoorW.PrintWords Go.Proofs.YtiifnofghicnaaaDoorW.PrintLast Go.Proofs.YtiifnofghicnaaaDoorW.PrintMore
set_option linter.unusedVariables false
set_option linter.unusedSimpArgs false
set_option maxHeartbeats 1000000 in
set_option maxRecDepth 100000 in
theorem string_zero (w : World) :
    Calls Tryd.prog 51 #[.agg #[.int .u64 0, .int .u64 0]] w fun e w' => e = .returned (.string (Go.strOfNums [48])) ∧ Below w.heap.size w w' := by
  have HZ := Lib.hid (show uint128_Uint128_IsZero.f 0 0 = some true from rfl)
  go_enter Tryd.func51, Tryd.ntmps51
  go_wp2_with fail
  refine (uint128_Uint128_IsZero.calls _ _ _ _ HZ.out).mono ?_
  rintro e w1 ⟨rfl, hb1⟩
  have HB := Lib.hid (((Below.refl w.heap.size w).alloc (Nat.le_refl _) (.cells #[.int .u64 0, .int .u64 0] 65)).trans (hb1.mono (by simp)))
  clear hb1
  go_wp2
  go_ret
  exact ⟨rfl, HB.out⟩
set_option maxHeartbeats 1000000 in
set_option maxRecDepth 100000 in
theorem widetext_walk (a b : Int) (s : ByteArray) (HS : Hid (∀ w, Calls Tryd.prog 51 #[.agg #[.int .u64 a, .int .u64 b]] w fun e w' => e = .returned (.string s) ∧ Below w.heap.size w w')) (w : World) :
    Calls Tryd.prog 25 #[.agg #[.int .u64 a, .int .u64 b]] w fun e w' => e = .returned (.string s) ∧ Below w.heap.size w w' := by
  go_enter Tryd.func25, Tryd.ntmps25
  go_wp2_with fail
  refine (impl_Wide_u.calls a b a b _ rfl).mono ?_
  rintro e w1 ⟨rfl, hb1⟩
  have HB := Lib.hid (((Below.refl w.heap.size w).alloc (Nat.le_refl _) (.cells #[.int .u64 a, .int .u64 b] 24)).trans (hb1.mono (by simp)))
  clear hb1
  go_wp2_with fail
  refine (HS.out _).mono ?_
  rintro e w2 ⟨rfl, hb2⟩
  have HB2 := Lib.hid (HB.out.trans (hb2.mono HB.out.size))
  clear hb2 HB
  go_wp2
  go_ret
  exact ⟨rfl, HB2.out⟩
set_option maxHeartbeats 4000000 in
set_option maxRecDepth 100000 in
theorem lawtext_walk (a b : Int) (x : Nat) (s : ByteArray) (w : World)
    (HT : Hid (∀ w, Calls Tryd.prog 25 #[.agg #[.int .u64 a, .int .u64 b]] w fun e w' => e = .returned (.string s) ∧ Below w.heap.size w w'))
    (HW : Hid (laws_wideWhole.f a b = some (Dig.dg x)))
    (HD : Hid (∀ (A : Option Addr) (c : Nat) (w : World), (Dig.dg x).length ≤ c → (∀ W, Below w.heap.size w W → Kd.C (Kd.int .i64) W A (Dig.dg x).length (Dig.dg x)) → Calls Tryd.prog 26 #[.slice A (Dig.dg x).length c] w fun e w' => e = .returned (.string s) ∧ Below w.heap.size w w')) :
    Calls Tryd.prog 5 #[.agg #[.int .u64 a, .int .u64 b]] w fun e w' => e = .returned (.bool true) ∧ Below w.heap.size w w' := by
  go_enter Tryd.func5, Tryd.ntmps5
  go_wp2_with fail
  obtain ⟨k1, y2⟩ : (w.alloc (.cells #[.int .u64 a, .int .u64 b] 24)).heap[w.heap.size]? = some (.cells #[.int .u64 a, .int .u64 b] 24) ∧ Below w.heap.size w (w.alloc (.cells #[.int .u64 a, .int .u64 b] 24)) := ⟨(MapKept.heap_alloc w _).1, (Below.refl _ _).alloc (Nat.le_refl _) _⟩
  have HB2 := Lib.hid y2
  clear y2
  generalize hg : w.heap.size = g at k1 ⊢
  generalize w.alloc (.cells #[.int .u64 a, .int .u64 b] 24) = W00 at k1 HB2 ⊢
  refine start_ (n := 7) (S := fun w' => w'.cell? ⟨g, 0, none⟩ = some (.int .u64 a) ∧ w'.cell? ⟨g, 1, none⟩ = some (.int .u64 b)) (ds := []) #[false, false, false, false, false, false, false] (by kernel_rfl) rfl rfl ⟨(blk_cell k1 0).trans rfl, (blk_cell k1 1).trans rfl⟩ (fun hHeld => ?_)
  have z1 := blk_drew k1
  have B0 : Below w.heap.size w W00.drew := HB2.out.drew
  clear k1 HB2
  generalize W00.drew = W0 at z1 B0 hHeld ⊢
  have BW := Below.refl W0.heap.size W0
  refine take_ (i := 0) (N := some 3) (v := ?_) (a' := ?_) #[true, false, false, false, false, false, false] rfl rfl (by kernel_rfl) (fun _ _ _ h => h) (Or.inl ⟨by rfl, ?_⟩) hHeld ?_ ?_
  rotate_left
  · rintro w' ⟨s0, s1⟩
    go_simp
    with_reducible rfl
  rotate_left
  · simp only [Act.put, List.setIfInBounds_toArray, List.set_cons_zero, List.set_cons_succ, i64_w, i32_w]
    rfl
  refine take_ (i := 2) (N := some 5) (v := ?_) (a' := ?_) #[true, false, true, false, false, false, false] rfl rfl (by kernel_rfl) (fun _ _ _ h => h) (Or.inl ⟨by rfl, ?_⟩) hHeld ?_ ?_
  rotate_left
  · rintro w' ⟨s0, s1⟩
    go_simp
    with_reducible rfl
  rotate_left
  · simp only [Act.put, List.setIfInBounds_toArray, List.set_cons_zero, List.set_cons_succ, i64_w, i32_w]
    rfl
  refine one_ (i := 1) (N := some 4) #[true, true, true, false, false, false, false] rfl rfl (by kernel_rfl) (by decide) (fun K hK => ?_)
  refine goes_ Tryd.func25 (by kernel_rfl) rfl #[.agg #[.int .u64 a, .int .u64 b]] (by rfl) rfl rfl (by (try simp only [List.map_toArray, List.map_cons, List.map_nil]); first | done | rfl) ?_
  refine (HT.out _).mono ?_
  rintro e W9 ⟨rfl, hb⟩
  refine ⟨_, rfl, ?_⟩
  replace BW := BW.trans (hb.mono BW.size)
  clear hb
  refine hK.out _ _ ⟨(blk_cell (bz_on z1 BW) 0).trans rfl, (blk_cell (bz_on z1 BW) 1).trans rfl⟩ (fun hHeld => ?_)
  clear hK K
  refine norm_ (a' := ?_) ?_ ?_
  rotate_left
  · show Act.put _ (some 4) _ = _
    simp only [Act.put, List.setIfInBounds_toArray, List.set_cons_zero, List.set_cons_succ, i64_w, i32_w]
    rfl
  refine one_ (i := 3) (N := some 6) #[true, true, true, true, false, false, false] rfl rfl (by kernel_rfl) (by decide) (fun K hK => ?_)
  refine goes_ Tryd.func18 (by kernel_rfl) rfl #[.agg #[.int .u64 a, .int .u64 b]] (by rfl) rfl rfl (by (try simp only [List.map_toArray, List.map_cons, List.map_nil]); first | done | rfl) ?_
  refine (laws_wideWhole.calls a b _ _ HW.out).mono ?_
  rintro e W9 ⟨v0, rfl, hv, hb⟩
  obtain ⟨A, c, rfl, hcap, hr⟩ := dgV hv
  clear hv
  refine ⟨_, rfl, ?_⟩
  replace BW := BW.trans (hb.mono BW.size)
  clear hb
  refine hK.out _ _ ⟨(blk_cell (bz_on z1 BW) 0).trans rfl, (blk_cell (bz_on z1 BW) 1).trans rfl⟩ (fun hHeld => ?_)
  clear hK K
  refine norm_ (a' := ?_) ?_ ?_
  rotate_left
  · show Act.put _ (some 6) _ = _
    simp only [Act.put, List.setIfInBounds_toArray, List.set_cons_zero, List.set_cons_succ, i64_w, i32_w]
    rfl
  refine one_ (i := 4) (N := some 7) #[true, true, true, true, true, false, false] rfl rfl (by kernel_rfl) (by decide) (fun K hK => ?_)
  refine goes_ Tryd.func26 (by kernel_rfl) rfl #[.slice A (Dig.dg x).length c] (by rfl) rfl rfl (by (try simp only [List.map_toArray, List.map_cons, List.map_nil]); first | done | rfl) ?_
  refine (HD.out A c _ hcap hr).mono ?_
  rintro e W9 ⟨rfl, hb⟩
  clear hr
  refine ⟨_, rfl, ?_⟩
  replace BW := BW.trans (hb.mono BW.size)
  clear hb
  refine hK.out _ _ ⟨(blk_cell (bz_on z1 BW) 0).trans rfl, (blk_cell (bz_on z1 BW) 1).trans rfl⟩ (fun hHeld => ?_)
  clear hK K
  refine norm_ (a' := ?_) ?_ ?_
  rotate_left
  · show Act.put _ (some 7) _ = _
    simp only [Act.put, List.setIfInBounds_toArray, List.set_cons_zero, List.set_cons_succ, i64_w, i32_w]
    rfl
  refine pure_ (i := 5) (N := some 8) (v := ?_) (a' := ?_) #[true, true, true, true, true, true, false] rfl rfl (by kernel_rfl) (fun _ _ _ h => h) (Or.inl ⟨by rfl, ?_⟩) ?_ ?_
  rotate_left
  · intro w'
    go_simp
    with_reducible rfl
  rotate_left
  · simp only [Act.put, List.setIfInBounds_toArray, List.set_cons_zero, List.set_cons_succ, i64_w, i32_w]
    rfl
  refine pure_ (i := 6) (N := some 2) (v := ?_) (a' := ?_) #[true, true, true, true, true, true, true] rfl rfl (by kernel_rfl) (fun _ _ _ h => h) (Or.inl ⟨by rfl, ?_⟩) ?_ ?_
  rotate_left
  · intro w'
    go_simp
    with_reducible rfl
  rotate_left
  · simp only [Act.put, List.setIfInBounds_toArray, List.set_cons_zero, List.set_cons_succ, i64_w, i32_w]
    rfl
  refine done_ (by kernel_rfl) ?_
  go_wp2
  subst hg
  go_ret
  exact ⟨rfl, B0.trans (BW.mono B0.size)⟩
theorem text_walk (a b : Int) (ha : 0 ≤ a ∧ a ≤ 18446744073709551615) (hb : 0 ≤ b ∧ b ≤ 18446744073709551615) (w : World) (hL : laidMetH Tryd.prog Rows.fnWideTextRow.laid w) :
    Calls Tryd.prog 5 #[.agg #[.int .u64 a, .int .u64 b]] w fun e w' => e = .returned (.bool true) ∧ Below w.heap.size w w' := by
  obtain ⟨x, rfl⟩ := Int.eq_ofNat_of_zero_le ha.1
  obtain ⟨y, rfl⟩ := Int.eq_ofNat_of_zero_le hb.1
  have hx : x < 18446744073709551616 := by omega
  have hy : y < 18446744073709551616 := by omega
  have ww := whole_law (u64_nat hx) (u64_nat hy)
  rw [n128] at ww
  by_cases h0 : x + y * 18446744073709551616 = 0
  · have hx0 : x = 0 := by omega
    have hy0 : y = 0 := by omega
    subst hx0 hy0
    exact lawtext_walk _ _ _ (Go.strOfNums [48]) w (Lib.hid fun w => widetext_walk _ _ _ (Lib.hid fun w => string_zero w) w) (Lib.hid ww) (Lib.hid fun A c w _ _ => digits_zero A c w)
  · obtain ⟨t, ht40, ht⟩ := digN_ex (x + y * 18446744073709551616) 40 (by omega)
    exact lawtext_walk _ _ _ _ w (Lib.hid fun w => widetext_walk _ _ _ (Lib.hid fun w => string_walk x y _ t hx hy rfl h0 ht w) w) (Lib.hid ww)
      (Lib.hid fun A c w hc hr => digits_walk _ t (by omega) h0 ht ht40 A c w hc hr)
end Go.Proofs.YtiifnofghicnaaaDoor.PAll
