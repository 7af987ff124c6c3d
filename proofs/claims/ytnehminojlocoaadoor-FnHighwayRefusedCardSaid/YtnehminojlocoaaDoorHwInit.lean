/- HighwayHash: a digest's state at the beginning. Printed by gen/hwinit.py. -/
import Derived.Test.YtnehminojlocoaaDoorHwDig
namespace Go.Proofs.YtnehminojlocoaaDoor.PAll
open Go.RowKit Go.Proofs.YtnehminojlocoaaDoorW.PrintWords Go.Proofs.YtnehminojlocoaaDoorW.PrintLast Go.Proofs.YtnehminojlocoaaDoorW.PrintMore
set_option linter.unusedVariables false
set_option linter.unusedSimpArgs false
theorem index4_0 (W : World) (a0 a1 a2 a3 : Int) : (Instr.index 61 (.agg #[.int .u64 a0, .int .u64 a1, .int .u64 a2, .int .u64 a3]) (.int .i64 0)).run Tryd.prog W = .ok (.int .u64 a0) W := by
  kernel_rfl
theorem index4_1 (W : World) (a0 a1 a2 a3 : Int) : (Instr.index 61 (.agg #[.int .u64 a0, .int .u64 a1, .int .u64 a2, .int .u64 a3]) (.int .i64 1)).run Tryd.prog W = .ok (.int .u64 a1) W := by
  kernel_rfl
theorem index4_2 (W : World) (a0 a1 a2 a3 : Int) : (Instr.index 61 (.agg #[.int .u64 a0, .int .u64 a1, .int .u64 a2, .int .u64 a3]) (.int .i64 2)).run Tryd.prog W = .ok (.int .u64 a2) W := by
  kernel_rfl
theorem index4_3 (W : World) (a0 a1 a2 a3 : Int) : (Instr.index 61 (.agg #[.int .u64 a0, .int .u64 a1, .int .u64 a2, .int .u64 a3]) (.int .i64 3)).run Tryd.prog W = .ok (.int .u64 a3) W := by
  kernel_rfl
set_option maxHeartbeats 8000000 in
set_option maxRecDepth 100000 in
theorem init_walk (T g : Nat) (w : World) (hd : Dg T g w) :
    Calls Tryd.prog 46 #[.pointer (some ⟨g, 0, none⟩), .slice (some ⟨g, 16, none⟩) 32 32] w fun e w' => e = .returned (.tuple #[]) ∧ Dg T g w' ∧ Below g w w' := by
  have HD := Lib.hid hd
  clear hd
  go_enter Tryd.func46, Tryd.ntmps46
  go_wp2_with fail
  have lg := HD.out.lt
  have DD := ((HD.out.alloc (.cells #[.int .u64 15845587454020865583, .int .u64 11820040416388919760, .int .u64 1376283091369227076, .int .u64 2611923443488327891] 61)).alloc (.cells #[.int .u64 4310963063287117203, .int .u64 13883737187602762380, .int .u64 13714699805381954668, .int .u64 4983270260364809079] 61)).alloc (.cells #[.int .u64 0, .int .u64 0, .int .u64 0, .int .u64 0] 61)
  have Ka : K4 w.heap.size _ := ⟨_, _, _, _, blk_alloc (blk_alloc (MapKept.heap_alloc w (.cells #[.int .u64 15845587454020865583, .int .u64 11820040416388919760, .int .u64 1376283091369227076, .int .u64 2611923443488327891] 61)).1 (.cells #[.int .u64 4310963063287117203, .int .u64 13883737187602762380, .int .u64 13714699805381954668, .int .u64 4983270260364809079] 61)) (.cells #[.int .u64 0, .int .u64 0, .int .u64 0, .int .u64 0] 61)⟩
  have Kb : K4 (w.heap.size + 1) (((w.alloc (.cells #[.int .u64 15845587454020865583, .int .u64 11820040416388919760, .int .u64 1376283091369227076, .int .u64 2611923443488327891] 61)).alloc (.cells #[.int .u64 4310963063287117203, .int .u64 13883737187602762380, .int .u64 13714699805381954668, .int .u64 4983270260364809079] 61)).alloc (.cells #[.int .u64 0, .int .u64 0, .int .u64 0, .int .u64 0] 61)) := ⟨_, _, _, _, blk_alloc (by have h := (MapKept.heap_alloc (w.alloc (.cells #[.int .u64 15845587454020865583, .int .u64 11820040416388919760, .int .u64 1376283091369227076, .int .u64 2611923443488327891] 61)) (.cells #[.int .u64 4310963063287117203, .int .u64 13883737187602762380, .int .u64 13714699805381954668, .int .u64 4983270260364809079] 61)).1; simpa using h) (.cells #[.int .u64 0, .int .u64 0, .int .u64 0, .int .u64 0] 61)⟩
  have Kc : K4 (w.heap.size + 1 + 1) (((w.alloc (.cells #[.int .u64 15845587454020865583, .int .u64 11820040416388919760, .int .u64 1376283091369227076, .int .u64 2611923443488327891] 61)).alloc (.cells #[.int .u64 4310963063287117203, .int .u64 13883737187602762380, .int .u64 13714699805381954668, .int .u64 4983270260364809079] 61)).alloc (.cells #[.int .u64 0, .int .u64 0, .int .u64 0, .int .u64 0] 61)) := ⟨_, _, _, _, by have h := (MapKept.heap_alloc ((w.alloc (.cells #[.int .u64 15845587454020865583, .int .u64 11820040416388919760, .int .u64 1376283091369227076, .int .u64 2611923443488327891] 61)).alloc (.cells #[.int .u64 4310963063287117203, .int .u64 13883737187602762380, .int .u64 13714699805381954668, .int .u64 4983270260364809079] 61)) (.cells #[.int .u64 0, .int .u64 0, .int .u64 0, .int .u64 0] 61)).1; simpa using h⟩
  have BW := (((Below.refl g w).alloc (Nat.le_of_lt lg) (.cells #[.int .u64 15845587454020865583, .int .u64 11820040416388919760, .int .u64 1376283091369227076, .int .u64 2611923443488327891] 61)).alloc (by simp; omega) (.cells #[.int .u64 4310963063287117203, .int .u64 13883737187602762380, .int .u64 13714699805381954668, .int .u64 4983270260364809079] 61)).alloc (by simp; omega) (.cells #[.int .u64 0, .int .u64 0, .int .u64 0, .int .u64 0] 61)
  clear HD
  generalize ((w.alloc (.cells #[.int .u64 15845587454020865583, .int .u64 11820040416388919760, .int .u64 1376283091369227076, .int .u64 2611923443488327891] 61)).alloc (.cells #[.int .u64 4310963063287117203, .int .u64 13883737187602762380, .int .u64 13714699805381954668, .int .u64 4983270260364809079] 61)).alloc (.cells #[.int .u64 0, .int .u64 0, .int .u64 0, .int .u64 0] 61) = W00 at DD Ka Kb Kc BW ⊢
  generalize w.heap.size = ga at lg Ka Kb Kc ⊢
  refine start_ (n := 6) (S := fun w' => True) (ds := []) #[false, false, false, false, false, false] (by kernel_rfl) rfl rfl trivial (fun hHeld => ?_)
  replace DD := DD.drew
  replace Ka := Ka.drew
  replace Kb := Kb.drew
  replace Kc := Kc.drew
  replace BW := BW.drew
  generalize World.drew _ = W0 at *
  refine pure_ (i := 1) (N := some 14) (v := ?_) (a' := ?_) #[false, true, false, false, false, false] rfl rfl (by kernel_rfl) (fun _ _ _ h => h) (Or.inl ⟨by rfl, ?_⟩) ?_ ?_
  rotate_left
  · intro w'
    go_simp
    with_reducible rfl
  rotate_left
  · simp only [Act.put, List.setIfInBounds_toArray, List.set_cons_zero, List.set_cons_succ, i64_w, i32_w]
    rfl
  refine pure_ (i := 2) (N := some 15) (v := ?_) (a' := ?_) #[false, true, true, false, false, false] rfl rfl (by kernel_rfl) (fun _ _ _ h => h) (Or.inl ⟨by rfl, ?_⟩) ?_ ?_
  rotate_left
  · intro w'
    go_simp
    with_reducible rfl
  rotate_left
  · simp only [Act.put, List.setIfInBounds_toArray, List.set_cons_zero, List.set_cons_succ, i64_w, i32_w]
    rfl
  refine take_ (i := 0) (N := some 13) (v := ?_) (a' := ?_) #[true, true, true, false, false, false] rfl rfl (by kernel_rfl) (fun _ _ _ h => h) (Or.inl ⟨by rfl, ?_⟩) hHeld ?_ ?_
  rotate_left
  · intro w' _
    go_simp
    with_reducible rfl
  rotate_left
  · simp only [Act.put, List.setIfInBounds_toArray, List.set_cons_zero, List.set_cons_succ, i64_w, i32_w]
    rfl
  refine one_ (i := 3) (N := some 16) #[true, true, true, true, false, false] rfl rfl (by kernel_rfl) (by decide) (fun K hK => ?_)
  refine goes_ Tryd.func43 (by kernel_rfl) rfl #[.agg #[], .slice (some ⟨g, 16, none⟩) 32 32] (by rfl) rfl rfl (by (try simp only [List.map_toArray, List.map_cons, List.map_nil]); first | done | rfl) ?_
  refine (u64_walk g 16 32 32 (by decide) (fun _ => 0) _ (fun W hW i hi => (DD.on hW).key _ (by omega) (by omega))).mono ?_
  rintro e W9 ⟨⟨r, rfl⟩, hb⟩
  refine ⟨_, rfl, ?_⟩
  replace BW := BW.trans (hb.mono (Nat.le_of_lt DD.lt))
  replace DD := DD.on hb
  replace Ka := Ka.on hb
  replace Kb := Kb.on hb
  replace Kc := Kc.on hb
  clear hb
  refine hK.out _ _ trivial (fun hHeld => ?_)
  clear hK K
  refine norm_ (a' := ?_) ?_ ?_
  rotate_left
  · show Act.put _ (some 16) _ = _
    simp only [Act.put, List.setIfInBounds_toArray, List.set_cons_zero, List.set_cons_succ, i64_w, i32_w]
    rfl
  refine pure_ (i := 4) (N := some 17) (v := ?_) (a' := ?_) #[true, true, true, true, true, false] rfl rfl (by kernel_rfl) (fun _ _ _ h => h) (Or.inl ⟨by rfl, ?_⟩) ?_ ?_
  rotate_left
  · intro w'
    go_simp
    with_reducible rfl
  rotate_left
  · simp only [Act.put, List.setIfInBounds_toArray, List.set_cons_zero, List.set_cons_succ, i64_w, i32_w]
    rfl
  refine one_ (i := 5) (N := none) #[true, true, true, true, true, true] rfl rfl (by kernel_rfl) (by decide) (fun K hK => ?_)
  obtain ⟨⟨x0, c0⟩, f0⟩ := Kc.cell 0 (by decide)
  refine skip_ (w1 := ?_) (by rfl) rfl ?_ ?_
  rotate_left
  · go_simp
    rfl
  clear c0 f0 x0
  generalize hW : World.setCell _ _ _ = W5
  replace BW : Below g w W5 := by
    rw [← hW]
    exact BW.setCell (by simp; try omega) _
  replace DD : Dg T g W5 := by
    rw [← hW]
    exact DD.far _ (by simp; try omega) _
  replace Ka : K4 (ga) W5 := by
    rw [← hW]
    exact Ka.far _ (by simp; try omega) _
  replace Kb : K4 (ga + 1) W5 := by
    rw [← hW]
    exact Kb.far _ (by simp; try omega) _
  replace Kc : K4 (ga + 1 + 1) W5 := by
    rw [← hW]
    exact Kc.set 0 (by decide) _
  clear hW
  refine hK.out _ _ trivial (fun hHeld => ?_)
  clear hK K
  refine done_ (by kernel_rfl) ?_
  go_wp2_with fail
  refine start_ (n := 6) (S := fun w' => True) (ds := []) #[false, false, false, false, false, false] (by kernel_rfl) rfl rfl trivial (fun hHeld => ?_)
  replace DD := DD.drew
  replace Ka := Ka.drew
  replace Kb := Kb.drew
  replace Kc := Kc.drew
  replace BW := BW.drew
  generalize World.drew _ = W0 at *
  refine pure_ (i := 1) (N := some 19) (v := ?_) (a' := ?_) #[false, true, false, false, false, false] rfl rfl (by kernel_rfl) (fun _ _ _ h => h) (Or.inl ⟨by rfl, ?_⟩) ?_ ?_
  rotate_left
  · intro w'
    go_simp
    with_reducible rfl
  rotate_left
  · simp only [Act.put, List.setIfInBounds_toArray, List.set_cons_zero, List.set_cons_succ, i64_w, i32_w]
    rfl
  refine pure_ (i := 2) (N := some 20) (v := ?_) (a' := ?_) #[false, true, true, false, false, false] rfl rfl (by kernel_rfl) (fun _ _ _ h => h) (Or.inl ⟨by rfl, ?_⟩) ?_ ?_
  rotate_left
  · intro w'
    go_simp
    with_reducible rfl
  rotate_left
  · simp only [Act.put, List.setIfInBounds_toArray, List.set_cons_zero, List.set_cons_succ, i64_w, i32_w]
    rfl
  refine take_ (i := 0) (N := some 18) (v := ?_) (a' := ?_) #[true, true, true, false, false, false] rfl rfl (by kernel_rfl) (fun _ _ _ h => h) (Or.inl ⟨by rfl, ?_⟩) hHeld ?_ ?_
  rotate_left
  · intro w' _
    go_simp
    with_reducible rfl
  rotate_left
  · simp only [Act.put, List.setIfInBounds_toArray, List.set_cons_zero, List.set_cons_succ, i64_w, i32_w]
    rfl
  refine one_ (i := 3) (N := some 21) #[true, true, true, true, false, false] rfl rfl (by kernel_rfl) (by decide) (fun K hK => ?_)
  refine goes_ Tryd.func43 (by kernel_rfl) rfl #[.agg #[], .slice (some ⟨g, 24, none⟩) 24 24] (by rfl) rfl rfl (by (try simp only [List.map_toArray, List.map_cons, List.map_nil]); first | done | rfl) ?_
  refine (u64_walk g 24 24 24 (by decide) (fun _ => 0) _ (fun W hW i hi => (DD.on hW).key _ (by omega) (by omega))).mono ?_
  rintro e W9 ⟨⟨r, rfl⟩, hb⟩
  refine ⟨_, rfl, ?_⟩
  replace BW := BW.trans (hb.mono (Nat.le_of_lt DD.lt))
  replace DD := DD.on hb
  replace Ka := Ka.on hb
  replace Kb := Kb.on hb
  replace Kc := Kc.on hb
  clear hb
  refine hK.out _ _ trivial (fun hHeld => ?_)
  clear hK K
  refine norm_ (a' := ?_) ?_ ?_
  rotate_left
  · show Act.put _ (some 21) _ = _
    simp only [Act.put, List.setIfInBounds_toArray, List.set_cons_zero, List.set_cons_succ, i64_w, i32_w]
    rfl
  refine pure_ (i := 4) (N := some 22) (v := ?_) (a' := ?_) #[true, true, true, true, true, false] rfl rfl (by kernel_rfl) (fun _ _ _ h => h) (Or.inl ⟨by rfl, ?_⟩) ?_ ?_
  rotate_left
  · intro w'
    go_simp
    with_reducible rfl
  rotate_left
  · simp only [Act.put, List.setIfInBounds_toArray, List.set_cons_zero, List.set_cons_succ, i64_w, i32_w]
    rfl
  refine one_ (i := 5) (N := none) #[true, true, true, true, true, true] rfl rfl (by kernel_rfl) (by decide) (fun K hK => ?_)
  obtain ⟨⟨x0, c0⟩, f0⟩ := Kc.cell 1 (by decide)
  refine skip_ (w1 := ?_) (by rfl) rfl ?_ ?_
  rotate_left
  · go_simp
    rfl
  clear c0 f0 x0
  generalize hW : World.setCell _ _ _ = W5
  replace BW : Below g w W5 := by
    rw [← hW]
    exact BW.setCell (by simp; try omega) _
  replace DD : Dg T g W5 := by
    rw [← hW]
    exact DD.far _ (by simp; try omega) _
  replace Ka : K4 (ga) W5 := by
    rw [← hW]
    exact Ka.far _ (by simp; try omega) _
  replace Kb : K4 (ga + 1) W5 := by
    rw [← hW]
    exact Kb.far _ (by simp; try omega) _
  replace Kc : K4 (ga + 1 + 1) W5 := by
    rw [← hW]
    exact Kc.set 1 (by decide) _
  clear hW
  refine hK.out _ _ trivial (fun hHeld => ?_)
  clear hK K
  refine done_ (by kernel_rfl) ?_
  go_wp2_with fail
  refine start_ (n := 6) (S := fun w' => True) (ds := []) #[false, false, false, false, false, false] (by kernel_rfl) rfl rfl trivial (fun hHeld => ?_)
  replace DD := DD.drew
  replace Ka := Ka.drew
  replace Kb := Kb.drew
  replace Kc := Kc.drew
  replace BW := BW.drew
  generalize World.drew _ = W0 at *
  refine pure_ (i := 1) (N := some 24) (v := ?_) (a' := ?_) #[false, true, false, false, false, false] rfl rfl (by kernel_rfl) (fun _ _ _ h => h) (Or.inl ⟨by rfl, ?_⟩) ?_ ?_
  rotate_left
  · intro w'
    go_simp
    with_reducible rfl
  rotate_left
  · simp only [Act.put, List.setIfInBounds_toArray, List.set_cons_zero, List.set_cons_succ, i64_w, i32_w]
    rfl
  refine pure_ (i := 2) (N := some 25) (v := ?_) (a' := ?_) #[false, true, true, false, false, false] rfl rfl (by kernel_rfl) (fun _ _ _ h => h) (Or.inl ⟨by rfl, ?_⟩) ?_ ?_
  rotate_left
  · intro w'
    go_simp
    with_reducible rfl
  rotate_left
  · simp only [Act.put, List.setIfInBounds_toArray, List.set_cons_zero, List.set_cons_succ, i64_w, i32_w]
    rfl
  refine take_ (i := 0) (N := some 23) (v := ?_) (a' := ?_) #[true, true, true, false, false, false] rfl rfl (by kernel_rfl) (fun _ _ _ h => h) (Or.inl ⟨by rfl, ?_⟩) hHeld ?_ ?_
  rotate_left
  · intro w' _
    go_simp
    with_reducible rfl
  rotate_left
  · simp only [Act.put, List.setIfInBounds_toArray, List.set_cons_zero, List.set_cons_succ, i64_w, i32_w]
    rfl
  refine one_ (i := 3) (N := some 26) #[true, true, true, true, false, false] rfl rfl (by kernel_rfl) (by decide) (fun K hK => ?_)
  refine goes_ Tryd.func43 (by kernel_rfl) rfl #[.agg #[], .slice (some ⟨g, 32, none⟩) 16 16] (by rfl) rfl rfl (by (try simp only [List.map_toArray, List.map_cons, List.map_nil]); first | done | rfl) ?_
  refine (u64_walk g 32 16 16 (by decide) (fun _ => 0) _ (fun W hW i hi => (DD.on hW).key _ (by omega) (by omega))).mono ?_
  rintro e W9 ⟨⟨r, rfl⟩, hb⟩
  refine ⟨_, rfl, ?_⟩
  replace BW := BW.trans (hb.mono (Nat.le_of_lt DD.lt))
  replace DD := DD.on hb
  replace Ka := Ka.on hb
  replace Kb := Kb.on hb
  replace Kc := Kc.on hb
  clear hb
  refine hK.out _ _ trivial (fun hHeld => ?_)
  clear hK K
  refine norm_ (a' := ?_) ?_ ?_
  rotate_left
  · show Act.put _ (some 26) _ = _
    simp only [Act.put, List.setIfInBounds_toArray, List.set_cons_zero, List.set_cons_succ, i64_w, i32_w]
    rfl
  refine pure_ (i := 4) (N := some 27) (v := ?_) (a' := ?_) #[true, true, true, true, true, false] rfl rfl (by kernel_rfl) (fun _ _ _ h => h) (Or.inl ⟨by rfl, ?_⟩) ?_ ?_
  rotate_left
  · intro w'
    go_simp
    with_reducible rfl
  rotate_left
  · simp only [Act.put, List.setIfInBounds_toArray, List.set_cons_zero, List.set_cons_succ, i64_w, i32_w]
    rfl
  refine one_ (i := 5) (N := none) #[true, true, true, true, true, true] rfl rfl (by kernel_rfl) (by decide) (fun K hK => ?_)
  obtain ⟨⟨x0, c0⟩, f0⟩ := Kc.cell 2 (by decide)
  refine skip_ (w1 := ?_) (by rfl) rfl ?_ ?_
  rotate_left
  · go_simp
    rfl
  clear c0 f0 x0
  generalize hW : World.setCell _ _ _ = W5
  replace BW : Below g w W5 := by
    rw [← hW]
    exact BW.setCell (by simp; try omega) _
  replace DD : Dg T g W5 := by
    rw [← hW]
    exact DD.far _ (by simp; try omega) _
  replace Ka : K4 (ga) W5 := by
    rw [← hW]
    exact Ka.far _ (by simp; try omega) _
  replace Kb : K4 (ga + 1) W5 := by
    rw [← hW]
    exact Kb.far _ (by simp; try omega) _
  replace Kc : K4 (ga + 1 + 1) W5 := by
    rw [← hW]
    exact Kc.set 2 (by decide) _
  clear hW
  refine hK.out _ _ trivial (fun hHeld => ?_)
  clear hK K
  refine done_ (by kernel_rfl) ?_
  go_wp2_with fail
  refine start_ (n := 6) (S := fun w' => True) (ds := []) #[false, false, false, false, false, false] (by kernel_rfl) rfl rfl trivial (fun hHeld => ?_)
  replace DD := DD.drew
  replace Ka := Ka.drew
  replace Kb := Kb.drew
  replace Kc := Kc.drew
  replace BW := BW.drew
  generalize World.drew _ = W0 at *
  refine pure_ (i := 1) (N := some 29) (v := ?_) (a' := ?_) #[false, true, false, false, false, false] rfl rfl (by kernel_rfl) (fun _ _ _ h => h) (Or.inl ⟨by rfl, ?_⟩) ?_ ?_
  rotate_left
  · intro w'
    go_simp
    with_reducible rfl
  rotate_left
  · simp only [Act.put, List.setIfInBounds_toArray, List.set_cons_zero, List.set_cons_succ, i64_w, i32_w]
    rfl
  refine pure_ (i := 2) (N := some 30) (v := ?_) (a' := ?_) #[false, true, true, false, false, false] rfl rfl (by kernel_rfl) (fun _ _ _ h => h) (Or.inl ⟨by rfl, ?_⟩) ?_ ?_
  rotate_left
  · intro w'
    go_simp
    with_reducible rfl
  rotate_left
  · simp only [Act.put, List.setIfInBounds_toArray, List.set_cons_zero, List.set_cons_succ, i64_w, i32_w]
    rfl
  refine take_ (i := 0) (N := some 28) (v := ?_) (a' := ?_) #[true, true, true, false, false, false] rfl rfl (by kernel_rfl) (fun _ _ _ h => h) (Or.inl ⟨by rfl, ?_⟩) hHeld ?_ ?_
  rotate_left
  · intro w' _
    go_simp
    with_reducible rfl
  rotate_left
  · simp only [Act.put, List.setIfInBounds_toArray, List.set_cons_zero, List.set_cons_succ, i64_w, i32_w]
    rfl
  refine one_ (i := 3) (N := some 31) #[true, true, true, true, false, false] rfl rfl (by kernel_rfl) (by decide) (fun K hK => ?_)
  refine goes_ Tryd.func43 (by kernel_rfl) rfl #[.agg #[], .slice (some ⟨g, 40, none⟩) 8 8] (by rfl) rfl rfl (by (try simp only [List.map_toArray, List.map_cons, List.map_nil]); first | done | rfl) ?_
  refine (u64_walk g 40 8 8 (by decide) (fun _ => 0) _ (fun W hW i hi => (DD.on hW).key _ (by omega) (by omega))).mono ?_
  rintro e W9 ⟨⟨r, rfl⟩, hb⟩
  refine ⟨_, rfl, ?_⟩
  replace BW := BW.trans (hb.mono (Nat.le_of_lt DD.lt))
  replace DD := DD.on hb
  replace Ka := Ka.on hb
  replace Kb := Kb.on hb
  replace Kc := Kc.on hb
  clear hb
  refine hK.out _ _ trivial (fun hHeld => ?_)
  clear hK K
  refine norm_ (a' := ?_) ?_ ?_
  rotate_left
  · show Act.put _ (some 31) _ = _
    simp only [Act.put, List.setIfInBounds_toArray, List.set_cons_zero, List.set_cons_succ, i64_w, i32_w]
    rfl
  refine pure_ (i := 4) (N := some 32) (v := ?_) (a' := ?_) #[true, true, true, true, true, false] rfl rfl (by kernel_rfl) (fun _ _ _ h => h) (Or.inl ⟨by rfl, ?_⟩) ?_ ?_
  rotate_left
  · intro w'
    go_simp
    with_reducible rfl
  rotate_left
  · simp only [Act.put, List.setIfInBounds_toArray, List.set_cons_zero, List.set_cons_succ, i64_w, i32_w]
    rfl
  refine one_ (i := 5) (N := none) #[true, true, true, true, true, true] rfl rfl (by kernel_rfl) (by decide) (fun K hK => ?_)
  obtain ⟨⟨x0, c0⟩, f0⟩ := Kc.cell 3 (by decide)
  refine skip_ (w1 := ?_) (by rfl) rfl ?_ ?_
  rotate_left
  · go_simp
    rfl
  clear c0 f0 x0
  generalize hW : World.setCell _ _ _ = W5
  replace BW : Below g w W5 := by
    rw [← hW]
    exact BW.setCell (by simp; try omega) _
  replace DD : Dg T g W5 := by
    rw [← hW]
    exact DD.far _ (by simp; try omega) _
  replace Ka : K4 (ga) W5 := by
    rw [← hW]
    exact Ka.far _ (by simp; try omega) _
  replace Kb : K4 (ga + 1) W5 := by
    rw [← hW]
    exact Kb.far _ (by simp; try omega) _
  replace Kc : K4 (ga + 1 + 1) W5 := by
    rw [← hW]
    exact Kc.set 3 (by decide) _
  clear hW
  refine hK.out _ _ trivial (fun hHeld => ?_)
  clear hK K
  refine done_ (by kernel_rfl) ?_
  go_wp2_with fail
  refine start_ (n := 5) (S := fun w' => True) (ds := []) #[false, false, false, false, false] (by kernel_rfl) rfl rfl trivial (fun hHeld => ?_)
  replace DD := DD.drew
  replace Ka := Ka.drew
  replace Kb := Kb.drew
  replace Kc := Kc.drew
  replace BW := BW.drew
  generalize World.drew _ = W0 at *
  refine pure_ (i := 0) (N := some 33) (v := ?_) (a' := ?_) #[true, false, false, false, false] rfl rfl (by kernel_rfl) (fun _ _ _ h => h) (Or.inl ⟨by rfl, ?_⟩) ?_ ?_
  rotate_left
  · intro w'
    go_simp
    with_reducible rfl
  rotate_left
  · simp only [Act.put, List.setIfInBounds_toArray, List.set_cons_zero, List.set_cons_succ, i64_w, i32_w]
    rfl
  refine pure_ (i := 1) (N := some 34) (v := ?_) (a' := ?_) #[true, true, false, false, false] rfl rfl (by kernel_rfl) (fun _ _ _ h => h) (Or.inl ⟨by rfl, ?_⟩) ?_ ?_
  rotate_left
  · intro w'
    go_simp
    with_reducible rfl
  rotate_left
  · simp only [Act.put, List.setIfInBounds_toArray, List.set_cons_zero, List.set_cons_succ, i64_w, i32_w]
    rfl
  refine pure_ (i := 2) (N := some 35) (v := ?_) (a' := ?_) #[true, true, true, false, false] rfl rfl (by kernel_rfl) (fun _ _ _ h => h) (Or.inl ⟨by rfl, ?_⟩) ?_ ?_
  rotate_left
  · intro w'
    go_simp
    with_reducible rfl
  rotate_left
  · simp only [Act.put, List.setIfInBounds_toArray, List.set_cons_zero, List.set_cons_succ, i64_w, i32_w]
    rfl
  refine pure_ (i := 3) (N := some 36) (v := ?_) (a' := ?_) #[true, true, true, true, false] rfl rfl (by kernel_rfl) (fun _ _ _ h => h) (Or.inl ⟨by rfl, ?_⟩) ?_ ?_
  rotate_left
  · intro w'
    go_simp
    with_reducible rfl
  rotate_left
  · simp only [Act.put, List.setIfInBounds_toArray, List.set_cons_zero, List.set_cons_succ, i64_w, i32_w]
    rfl
  refine one_ (i := 4) (N := some 37) #[true, true, true, true, true] rfl rfl (by kernel_rfl) (by decide) (fun K hK => ?_)
  obtain ⟨Wc, hcp, DD2, hK, hBw, hsz⟩ := run_copy4 (n := 8) (c := 8) DD Ka (o := 8) (by decide) (by decide) 3
  refine value_ (w1 := ?_) (v := ?_) (by rfl) rfl ?_ ?_
  rotate_left 2
  · go_simp
    constructor
    · rfl
    · rfl
  replace Ka := hK _ (by omega) Ka
  replace Kb := hK _ (by omega) Kb
  replace Kc := hK _ (by omega) Kc
  replace BW := hBw _ _ (Nat.le_refl _) BW
  clear DD hK hBw hcp
  have DD := DD2
  clear DD2 hsz
  refine hK.out _ _ trivial (fun hHeld => ?_)
  clear hK K
  refine norm_ (a' := ?_) ?_ ?_
  rotate_left
  · show Act.put _ (some 37) _ = _
    simp only [Act.put, List.setIfInBounds_toArray, List.set_cons_zero, List.set_cons_succ, i64_w, i32_w]
    rfl
  refine done_ (by kernel_rfl) ?_
  go_wp2_with fail
  refine start_ (n := 5) (S := fun w' => True) (ds := []) #[false, false, false, false, false] (by kernel_rfl) rfl rfl trivial (fun hHeld => ?_)
  replace DD := DD.drew
  replace Ka := Ka.drew
  replace Kb := Kb.drew
  replace Kc := Kc.drew
  replace BW := BW.drew
  generalize World.drew _ = W0 at *
  refine pure_ (i := 0) (N := some 38) (v := ?_) (a' := ?_) #[true, false, false, false, false] rfl rfl (by kernel_rfl) (fun _ _ _ h => h) (Or.inl ⟨by rfl, ?_⟩) ?_ ?_
  rotate_left
  · intro w'
    go_simp
    with_reducible rfl
  rotate_left
  · simp only [Act.put, List.setIfInBounds_toArray, List.set_cons_zero, List.set_cons_succ, i64_w, i32_w]
    rfl
  refine pure_ (i := 1) (N := some 39) (v := ?_) (a' := ?_) #[true, true, false, false, false] rfl rfl (by kernel_rfl) (fun _ _ _ h => h) (Or.inl ⟨by rfl, ?_⟩) ?_ ?_
  rotate_left
  · intro w'
    go_simp
    with_reducible rfl
  rotate_left
  · simp only [Act.put, List.setIfInBounds_toArray, List.set_cons_zero, List.set_cons_succ, i64_w, i32_w]
    rfl
  refine pure_ (i := 2) (N := some 40) (v := ?_) (a' := ?_) #[true, true, true, false, false] rfl rfl (by kernel_rfl) (fun _ _ _ h => h) (Or.inl ⟨by rfl, ?_⟩) ?_ ?_
  rotate_left
  · intro w'
    go_simp
    with_reducible rfl
  rotate_left
  · simp only [Act.put, List.setIfInBounds_toArray, List.set_cons_zero, List.set_cons_succ, i64_w, i32_w]
    rfl
  refine pure_ (i := 3) (N := some 41) (v := ?_) (a' := ?_) #[true, true, true, true, false] rfl rfl (by kernel_rfl) (fun _ _ _ h => h) (Or.inl ⟨by rfl, ?_⟩) ?_ ?_
  rotate_left
  · intro w'
    go_simp
    with_reducible rfl
  rotate_left
  · simp only [Act.put, List.setIfInBounds_toArray, List.set_cons_zero, List.set_cons_succ, i64_w, i32_w]
    rfl
  refine one_ (i := 4) (N := some 42) #[true, true, true, true, true] rfl rfl (by kernel_rfl) (by decide) (fun K hK => ?_)
  obtain ⟨Wc, hcp, DD2, hK, hBw, hsz⟩ := run_copy4 (n := 4) (c := 4) DD Kb (o := 12) (by decide) (by decide) 3
  refine value_ (w1 := ?_) (v := ?_) (by rfl) rfl ?_ ?_
  rotate_left 2
  · go_simp
    constructor
    · rfl
    · rfl
  replace Ka := hK _ (by omega) Ka
  replace Kb := hK _ (by omega) Kb
  replace Kc := hK _ (by omega) Kc
  replace BW := hBw _ _ (Nat.le_refl _) BW
  clear DD hK hBw hcp
  have DD := DD2
  clear DD2 hsz
  refine hK.out _ _ trivial (fun hHeld => ?_)
  clear hK K
  refine norm_ (a' := ?_) ?_ ?_
  rotate_left
  · show Act.put _ (some 42) _ = _
    simp only [Act.put, List.setIfInBounds_toArray, List.set_cons_zero, List.set_cons_succ, i64_w, i32_w]
    rfl
  refine done_ (by kernel_rfl) ?_
  obtain ⟨a0, a1, a2, a3, hk⟩ := id Kc
  have d0 := (blk_cell hk 0).trans (show _ = some (.int .u64 a0) from rfl)
  have d1 := (blk_cell hk 1).trans (show _ = some (.int .u64 a1) from rfl)
  have d2 := (blk_cell hk 2).trans (show _ = some (.int .u64 a2) from rfl)
  have d3 := (blk_cell hk 3).trans (show _ = some (.int .u64 a3) from rfl)
  clear hk
  have E1 := Lib.hid (And.intro DD (And.intro Ka (And.intro Kb (And.intro Kc BW))))
  clear DD Ka Kb Kc BW
  go_wp2_with fail
  go_loopw [44] (fun i wr => ∃ j : Nat, j ≤ 4 ∧ i = .int .i64 (j : Int) ∧ Dg T g wr ∧ K4 ga wr ∧ K4 (ga + 1) wr ∧ K4 (ga + 1 + 1) wr ∧ Below g w wr) (fun i _ => 4 - (intOf i).toNat)
  case atStart => exact ⟨0, by decide, rfl, E1.out⟩
  case round =>
    clear d0 d1 d2 d3
    clear E1
    obtain ⟨j, hj, rfl, DD, Ka, Kb, Kc, BW⟩ := hrel
    obtain rfl | rfl | rfl | rfl | rfl : j = 0 ∨ j = 1 ∨ j = 2 ∨ j = 3 ∨ j = 4 := by omega
    · have hix := fun (W : World) (a0 a1 a2 a3 : Int) => index4_0 W a0 a1 a2 a3
      go_wp2_with fail
      clear hix
      have hwz : wrap64 0 = 0 := by unfold wrap64; omega
      obtain ⟨⟨x1, c1⟩, _⟩ := Ka.cell 0 (by decide)
      refine start_ (n := 11) (S := fun w' => w'.cell? ⟨ga, 0, none⟩ = some (.int .u64 x1)) (ds := [10]) #[false, false, false, false, false, false, false, false, false, false, false] (by kernel_rfl) rfl rfl (c1) (fun hHeld => ?_)
      replace DD := DD.drew
      replace Ka := Ka.drew
      replace Kb := Kb.drew
      replace Kc := Kc.drew
      replace BW := BW.drew
      clear c1
      generalize World.drew _ = W0 at *
      refine pure_ (i := 0) (N := some 48) (v := ?_) (a' := ?_) #[true, false, false, false, false, false, false, false, false, false, false] rfl rfl (by kernel_rfl) (fun _ _ _ h => h) (Or.inl ⟨by rfl, ?_⟩) ?_ ?_
      rotate_left
      · intro w'
        go_simp
        with_reducible rfl
      rotate_left
      · simp only [Act.put, List.setIfInBounds_toArray, List.set_cons_zero, List.set_cons_succ, i64_w, i32_w]
        rfl
      refine pure_ (i := 1) (N := some 49) (v := ?_) (a' := ?_) #[true, true, false, false, false, false, false, false, false, false, false] rfl rfl (by kernel_rfl) (fun _ _ _ h => h) (Or.inl ⟨by rfl, ?_⟩) ?_ ?_
      rotate_left
      · intro w'
        go_simp
        with_reducible rfl
      rotate_left
      · simp only [Act.put, List.setIfInBounds_toArray, List.set_cons_zero, List.set_cons_succ, i64_w, i32_w]
        rfl
      refine pure_ (i := 2) (N := some 50) (v := ?_) (a' := ?_) #[true, true, true, false, false, false, false, false, false, false, false] rfl rfl (by kernel_rfl) (fun _ _ _ h => h) (Or.inl ⟨by rfl, ?_⟩) ?_ ?_
      rotate_left
      · intro w'
        go_simp
        with_reducible rfl
      rotate_left
      · simp only [Act.put, List.setIfInBounds_toArray, List.set_cons_zero, List.set_cons_succ, i64_w, i32_w]
        rfl
      refine pure_ (i := 3) (N := some 51) (v := ?_) (a' := ?_) #[true, true, true, true, false, false, false, false, false, false, false] rfl rfl (by kernel_rfl) (fun _ _ _ h => h) (Or.inl ⟨by rfl, ?_⟩) ?_ ?_
      rotate_left
      · intro w'
        go_simp
        with_reducible rfl
      rotate_left
      · simp only [Act.put, List.setIfInBounds_toArray, List.set_cons_zero, List.set_cons_succ, i64_w, i32_w]
        rfl
      refine pure_ (i := 4) (N := some 52) (v := ?_) (a' := ?_) #[true, true, true, true, true, false, false, false, false, false, false] rfl rfl (by kernel_rfl) (fun _ _ _ h => h) (Or.inl ⟨by rfl, ?_⟩) ?_ ?_
      rotate_left
      · intro w'
        go_simp
        with_reducible rfl
      rotate_left
      · simp only [Act.put, List.setIfInBounds_toArray, List.set_cons_zero, List.set_cons_succ, i64_w, i32_w]
        rfl
      refine pure_ (i := 6) (N := some 54) (v := ?_) (a' := ?_) #[true, true, true, true, true, false, true, false, false, false, false] rfl rfl (by kernel_rfl) (fun _ _ _ h => h) (Or.inl ⟨by rfl, ?_⟩) ?_ ?_
      rotate_left
      · intro w'
        go_simp
        with_reducible rfl
      rotate_left
      · simp only [Act.put, List.setIfInBounds_toArray, List.set_cons_zero, List.set_cons_succ, i64_w, i32_w]
        rfl
      refine pure_ (i := 8) (N := some 56) (v := ?_) (a' := ?_) #[true, true, true, true, true, false, true, false, true, false, false] rfl rfl (by kernel_rfl) (fun _ _ _ h => h) (Or.inl ⟨by rfl, ?_⟩) ?_ ?_
      rotate_left
      · intro w'
        go_simp
        with_reducible rfl
      rotate_left
      · simp only [Act.put, List.setIfInBounds_toArray, List.set_cons_zero, List.set_cons_succ, i64_w, i32_w]
        rfl
      refine take_ (i := 5) (N := some 53) (v := ?_) (a' := ?_) #[true, true, true, true, true, true, true, false, true, false, false] rfl rfl (by kernel_rfl) (fun _ _ _ h => h) (Or.inl ⟨by rfl, ?_⟩) hHeld ?_ ?_
      rotate_left
      · intro w' s0
        go_simp
        with_reducible rfl
      rotate_left
      · simp only [Act.put, List.setIfInBounds_toArray, List.set_cons_zero, List.set_cons_succ, i64_w, i32_w]
        rfl
      refine pure_ (i := 7) (N := some 55) (v := ?_) (a' := ?_) #[true, true, true, true, true, true, true, true, true, false, false] rfl rfl (by kernel_rfl) (fun _ _ _ h => h) (Or.inl ⟨by rfl, ?_⟩) ?_ ?_
      rotate_left
      · intro w'
        go_simp
        with_reducible rfl
      rotate_left
      · simp only [Act.put, List.setIfInBounds_toArray, List.set_cons_zero, List.set_cons_succ, i64_w, i32_w]
        rfl
      refine pure_ (i := 9) (N := some 57) (v := ?_) (a' := ?_) #[true, true, true, true, true, true, true, true, true, true, false] rfl rfl (by kernel_rfl) (fun _ _ _ h => h) (Or.inl ⟨by rfl, ?_⟩) ?_ ?_
      rotate_left
      · intro w'
        go_simp
        with_reducible rfl
      rotate_left
      · simp only [Act.put, List.setIfInBounds_toArray, List.set_cons_zero, List.set_cons_succ, i64_w, i32_w]
        rfl
      refine last_ (i := 10) (N := none) #[true, true, true, true, true, true, true, true, true, true, true] rfl rfl (by kernel_rfl) (by decide) (fun K hK => ?_)
      obtain ⟨⟨x0, c0⟩, f0⟩ := DD.slot 0 (by decide)
      refine skip_ (w1 := ?_) (by rfl) rfl ?_ ?_
      rotate_left
      · go_simp
        rfl
      clear c0 f0 x0
      generalize hW : World.setCell _ _ _ = W5
      replace BW : Below g w W5 := by
        rw [← hW]
        exact BW.setCell (by simp; try omega) _
      replace DD : Dg T g W5 := by
        rw [← hW]
        exact DD.set 0 (by decide) _
      replace Ka : K4 (ga) W5 := by
        rw [← hW]
        exact Ka.far _ (by simp; try omega) _
      replace Kb : K4 (ga + 1) W5 := by
        rw [← hW]
        exact Kb.far _ (by simp; try omega) _
      replace Kc : K4 (ga + 1 + 1) W5 := by
        rw [← hW]
        exact Kc.far _ (by simp; try omega) _
      clear hW
      refine hK.out _ _ ?_
      clear hK K
      refine done_ (by kernel_rfl) ?_
      go_wp2_with fail
      refine ⟨⟨1, by decide, rfl, DD, Ka, Kb, Kc, BW⟩, ?_⟩
      simp only [intOf]
      omega
    · have hix := fun (W : World) (a0 a1 a2 a3 : Int) => index4_1 W a0 a1 a2 a3
      go_wp2_with fail
      clear hix
      have hwz : wrap64 1 = 1 := by unfold wrap64; omega
      obtain ⟨⟨x1, c1⟩, _⟩ := Ka.cell 1 (by decide)
      refine start_ (n := 11) (S := fun w' => w'.cell? ⟨ga, 1, none⟩ = some (.int .u64 x1)) (ds := [10]) #[false, false, false, false, false, false, false, false, false, false, false] (by kernel_rfl) rfl rfl (c1) (fun hHeld => ?_)
      replace DD := DD.drew
      replace Ka := Ka.drew
      replace Kb := Kb.drew
      replace Kc := Kc.drew
      replace BW := BW.drew
      clear c1
      generalize World.drew _ = W0 at *
      refine pure_ (i := 0) (N := some 48) (v := ?_) (a' := ?_) #[true, false, false, false, false, false, false, false, false, false, false] rfl rfl (by kernel_rfl) (fun _ _ _ h => h) (Or.inl ⟨by rfl, ?_⟩) ?_ ?_
      rotate_left
      · intro w'
        go_simp
        with_reducible rfl
      rotate_left
      · simp only [Act.put, List.setIfInBounds_toArray, List.set_cons_zero, List.set_cons_succ, i64_w, i32_w]
        rfl
      refine pure_ (i := 1) (N := some 49) (v := ?_) (a' := ?_) #[true, true, false, false, false, false, false, false, false, false, false] rfl rfl (by kernel_rfl) (fun _ _ _ h => h) (Or.inl ⟨by rfl, ?_⟩) ?_ ?_
      rotate_left
      · intro w'
        go_simp
        with_reducible rfl
      rotate_left
      · simp only [Act.put, List.setIfInBounds_toArray, List.set_cons_zero, List.set_cons_succ, i64_w, i32_w]
        rfl
      refine pure_ (i := 2) (N := some 50) (v := ?_) (a' := ?_) #[true, true, true, false, false, false, false, false, false, false, false] rfl rfl (by kernel_rfl) (fun _ _ _ h => h) (Or.inl ⟨by rfl, ?_⟩) ?_ ?_
      rotate_left
      · intro w'
        go_simp
        with_reducible rfl
      rotate_left
      · simp only [Act.put, List.setIfInBounds_toArray, List.set_cons_zero, List.set_cons_succ, i64_w, i32_w]
        rfl
      refine pure_ (i := 3) (N := some 51) (v := ?_) (a' := ?_) #[true, true, true, true, false, false, false, false, false, false, false] rfl rfl (by kernel_rfl) (fun _ _ _ h => h) (Or.inl ⟨by rfl, ?_⟩) ?_ ?_
      rotate_left
      · intro w'
        go_simp
        with_reducible rfl
      rotate_left
      · simp only [Act.put, List.setIfInBounds_toArray, List.set_cons_zero, List.set_cons_succ, i64_w, i32_w]
        rfl
      refine pure_ (i := 4) (N := some 52) (v := ?_) (a' := ?_) #[true, true, true, true, true, false, false, false, false, false, false] rfl rfl (by kernel_rfl) (fun _ _ _ h => h) (Or.inl ⟨by rfl, ?_⟩) ?_ ?_
      rotate_left
      · intro w'
        go_simp
        with_reducible rfl
      rotate_left
      · simp only [Act.put, List.setIfInBounds_toArray, List.set_cons_zero, List.set_cons_succ, i64_w, i32_w]
        rfl
      refine pure_ (i := 6) (N := some 54) (v := ?_) (a' := ?_) #[true, true, true, true, true, false, true, false, false, false, false] rfl rfl (by kernel_rfl) (fun _ _ _ h => h) (Or.inl ⟨by rfl, ?_⟩) ?_ ?_
      rotate_left
      · intro w'
        go_simp
        with_reducible rfl
      rotate_left
      · simp only [Act.put, List.setIfInBounds_toArray, List.set_cons_zero, List.set_cons_succ, i64_w, i32_w]
        rfl
      refine pure_ (i := 8) (N := some 56) (v := ?_) (a' := ?_) #[true, true, true, true, true, false, true, false, true, false, false] rfl rfl (by kernel_rfl) (fun _ _ _ h => h) (Or.inl ⟨by rfl, ?_⟩) ?_ ?_
      rotate_left
      · intro w'
        go_simp
        with_reducible rfl
      rotate_left
      · simp only [Act.put, List.setIfInBounds_toArray, List.set_cons_zero, List.set_cons_succ, i64_w, i32_w]
        rfl
      refine take_ (i := 5) (N := some 53) (v := ?_) (a' := ?_) #[true, true, true, true, true, true, true, false, true, false, false] rfl rfl (by kernel_rfl) (fun _ _ _ h => h) (Or.inl ⟨by rfl, ?_⟩) hHeld ?_ ?_
      rotate_left
      · intro w' s0
        go_simp
        with_reducible rfl
      rotate_left
      · simp only [Act.put, List.setIfInBounds_toArray, List.set_cons_zero, List.set_cons_succ, i64_w, i32_w]
        rfl
      refine pure_ (i := 7) (N := some 55) (v := ?_) (a' := ?_) #[true, true, true, true, true, true, true, true, true, false, false] rfl rfl (by kernel_rfl) (fun _ _ _ h => h) (Or.inl ⟨by rfl, ?_⟩) ?_ ?_
      rotate_left
      · intro w'
        go_simp
        with_reducible rfl
      rotate_left
      · simp only [Act.put, List.setIfInBounds_toArray, List.set_cons_zero, List.set_cons_succ, i64_w, i32_w]
        rfl
      refine pure_ (i := 9) (N := some 57) (v := ?_) (a' := ?_) #[true, true, true, true, true, true, true, true, true, true, false] rfl rfl (by kernel_rfl) (fun _ _ _ h => h) (Or.inl ⟨by rfl, ?_⟩) ?_ ?_
      rotate_left
      · intro w'
        go_simp
        with_reducible rfl
      rotate_left
      · simp only [Act.put, List.setIfInBounds_toArray, List.set_cons_zero, List.set_cons_succ, i64_w, i32_w]
        rfl
      refine last_ (i := 10) (N := none) #[true, true, true, true, true, true, true, true, true, true, true] rfl rfl (by kernel_rfl) (by decide) (fun K hK => ?_)
      obtain ⟨⟨x0, c0⟩, f0⟩ := DD.slot 1 (by decide)
      refine skip_ (w1 := ?_) (by rfl) rfl ?_ ?_
      rotate_left
      · go_simp
        rfl
      clear c0 f0 x0
      generalize hW : World.setCell _ _ _ = W5
      replace BW : Below g w W5 := by
        rw [← hW]
        exact BW.setCell (by simp; try omega) _
      replace DD : Dg T g W5 := by
        rw [← hW]
        exact DD.set 1 (by decide) _
      replace Ka : K4 (ga) W5 := by
        rw [← hW]
        exact Ka.far _ (by simp; try omega) _
      replace Kb : K4 (ga + 1) W5 := by
        rw [← hW]
        exact Kb.far _ (by simp; try omega) _
      replace Kc : K4 (ga + 1 + 1) W5 := by
        rw [← hW]
        exact Kc.far _ (by simp; try omega) _
      clear hW
      refine hK.out _ _ ?_
      clear hK K
      refine done_ (by kernel_rfl) ?_
      go_wp2_with fail
      refine ⟨⟨2, by decide, rfl, DD, Ka, Kb, Kc, BW⟩, ?_⟩
      simp only [intOf]
      omega
    · have hix := fun (W : World) (a0 a1 a2 a3 : Int) => index4_2 W a0 a1 a2 a3
      go_wp2_with fail
      clear hix
      have hwz : wrap64 2 = 2 := by unfold wrap64; omega
      obtain ⟨⟨x1, c1⟩, _⟩ := Ka.cell 2 (by decide)
      refine start_ (n := 11) (S := fun w' => w'.cell? ⟨ga, 2, none⟩ = some (.int .u64 x1)) (ds := [10]) #[false, false, false, false, false, false, false, false, false, false, false] (by kernel_rfl) rfl rfl (c1) (fun hHeld => ?_)
      replace DD := DD.drew
      replace Ka := Ka.drew
      replace Kb := Kb.drew
      replace Kc := Kc.drew
      replace BW := BW.drew
      clear c1
      generalize World.drew _ = W0 at *
      refine pure_ (i := 0) (N := some 48) (v := ?_) (a' := ?_) #[true, false, false, false, false, false, false, false, false, false, false] rfl rfl (by kernel_rfl) (fun _ _ _ h => h) (Or.inl ⟨by rfl, ?_⟩) ?_ ?_
      rotate_left
      · intro w'
        go_simp
        with_reducible rfl
      rotate_left
      · simp only [Act.put, List.setIfInBounds_toArray, List.set_cons_zero, List.set_cons_succ, i64_w, i32_w]
        rfl
      refine pure_ (i := 1) (N := some 49) (v := ?_) (a' := ?_) #[true, true, false, false, false, false, false, false, false, false, false] rfl rfl (by kernel_rfl) (fun _ _ _ h => h) (Or.inl ⟨by rfl, ?_⟩) ?_ ?_
      rotate_left
      · intro w'
        go_simp
        with_reducible rfl
      rotate_left
      · simp only [Act.put, List.setIfInBounds_toArray, List.set_cons_zero, List.set_cons_succ, i64_w, i32_w]
        rfl
      refine pure_ (i := 2) (N := some 50) (v := ?_) (a' := ?_) #[true, true, true, false, false, false, false, false, false, false, false] rfl rfl (by kernel_rfl) (fun _ _ _ h => h) (Or.inl ⟨by rfl, ?_⟩) ?_ ?_
      rotate_left
      · intro w'
        go_simp
        with_reducible rfl
      rotate_left
      · simp only [Act.put, List.setIfInBounds_toArray, List.set_cons_zero, List.set_cons_succ, i64_w, i32_w]
        rfl
      refine pure_ (i := 3) (N := some 51) (v := ?_) (a' := ?_) #[true, true, true, true, false, false, false, false, false, false, false] rfl rfl (by kernel_rfl) (fun _ _ _ h => h) (Or.inl ⟨by rfl, ?_⟩) ?_ ?_
      rotate_left
      · intro w'
        go_simp
        with_reducible rfl
      rotate_left
      · simp only [Act.put, List.setIfInBounds_toArray, List.set_cons_zero, List.set_cons_succ, i64_w, i32_w]
        rfl
      refine pure_ (i := 4) (N := some 52) (v := ?_) (a' := ?_) #[true, true, true, true, true, false, false, false, false, false, false] rfl rfl (by kernel_rfl) (fun _ _ _ h => h) (Or.inl ⟨by rfl, ?_⟩) ?_ ?_
      rotate_left
      · intro w'
        go_simp
        with_reducible rfl
      rotate_left
      · simp only [Act.put, List.setIfInBounds_toArray, List.set_cons_zero, List.set_cons_succ, i64_w, i32_w]
        rfl
      refine pure_ (i := 6) (N := some 54) (v := ?_) (a' := ?_) #[true, true, true, true, true, false, true, false, false, false, false] rfl rfl (by kernel_rfl) (fun _ _ _ h => h) (Or.inl ⟨by rfl, ?_⟩) ?_ ?_
      rotate_left
      · intro w'
        go_simp
        with_reducible rfl
      rotate_left
      · simp only [Act.put, List.setIfInBounds_toArray, List.set_cons_zero, List.set_cons_succ, i64_w, i32_w]
        rfl
      refine pure_ (i := 8) (N := some 56) (v := ?_) (a' := ?_) #[true, true, true, true, true, false, true, false, true, false, false] rfl rfl (by kernel_rfl) (fun _ _ _ h => h) (Or.inl ⟨by rfl, ?_⟩) ?_ ?_
      rotate_left
      · intro w'
        go_simp
        with_reducible rfl
      rotate_left
      · simp only [Act.put, List.setIfInBounds_toArray, List.set_cons_zero, List.set_cons_succ, i64_w, i32_w]
        rfl
      refine take_ (i := 5) (N := some 53) (v := ?_) (a' := ?_) #[true, true, true, true, true, true, true, false, true, false, false] rfl rfl (by kernel_rfl) (fun _ _ _ h => h) (Or.inl ⟨by rfl, ?_⟩) hHeld ?_ ?_
      rotate_left
      · intro w' s0
        go_simp
        with_reducible rfl
      rotate_left
      · simp only [Act.put, List.setIfInBounds_toArray, List.set_cons_zero, List.set_cons_succ, i64_w, i32_w]
        rfl
      refine pure_ (i := 7) (N := some 55) (v := ?_) (a' := ?_) #[true, true, true, true, true, true, true, true, true, false, false] rfl rfl (by kernel_rfl) (fun _ _ _ h => h) (Or.inl ⟨by rfl, ?_⟩) ?_ ?_
      rotate_left
      · intro w'
        go_simp
        with_reducible rfl
      rotate_left
      · simp only [Act.put, List.setIfInBounds_toArray, List.set_cons_zero, List.set_cons_succ, i64_w, i32_w]
        rfl
      refine pure_ (i := 9) (N := some 57) (v := ?_) (a' := ?_) #[true, true, true, true, true, true, true, true, true, true, false] rfl rfl (by kernel_rfl) (fun _ _ _ h => h) (Or.inl ⟨by rfl, ?_⟩) ?_ ?_
      rotate_left
      · intro w'
        go_simp
        with_reducible rfl
      rotate_left
      · simp only [Act.put, List.setIfInBounds_toArray, List.set_cons_zero, List.set_cons_succ, i64_w, i32_w]
        rfl
      refine last_ (i := 10) (N := none) #[true, true, true, true, true, true, true, true, true, true, true] rfl rfl (by kernel_rfl) (by decide) (fun K hK => ?_)
      obtain ⟨⟨x0, c0⟩, f0⟩ := DD.slot 2 (by decide)
      refine skip_ (w1 := ?_) (by rfl) rfl ?_ ?_
      rotate_left
      · go_simp
        rfl
      clear c0 f0 x0
      generalize hW : World.setCell _ _ _ = W5
      replace BW : Below g w W5 := by
        rw [← hW]
        exact BW.setCell (by simp; try omega) _
      replace DD : Dg T g W5 := by
        rw [← hW]
        exact DD.set 2 (by decide) _
      replace Ka : K4 (ga) W5 := by
        rw [← hW]
        exact Ka.far _ (by simp; try omega) _
      replace Kb : K4 (ga + 1) W5 := by
        rw [← hW]
        exact Kb.far _ (by simp; try omega) _
      replace Kc : K4 (ga + 1 + 1) W5 := by
        rw [← hW]
        exact Kc.far _ (by simp; try omega) _
      clear hW
      refine hK.out _ _ ?_
      clear hK K
      refine done_ (by kernel_rfl) ?_
      go_wp2_with fail
      refine ⟨⟨3, by decide, rfl, DD, Ka, Kb, Kc, BW⟩, ?_⟩
      simp only [intOf]
      omega
    · have hix := fun (W : World) (a0 a1 a2 a3 : Int) => index4_3 W a0 a1 a2 a3
      go_wp2_with fail
      clear hix
      have hwz : wrap64 3 = 3 := by unfold wrap64; omega
      obtain ⟨⟨x1, c1⟩, _⟩ := Ka.cell 3 (by decide)
      refine start_ (n := 11) (S := fun w' => w'.cell? ⟨ga, 3, none⟩ = some (.int .u64 x1)) (ds := [10]) #[false, false, false, false, false, false, false, false, false, false, false] (by kernel_rfl) rfl rfl (c1) (fun hHeld => ?_)
      replace DD := DD.drew
      replace Ka := Ka.drew
      replace Kb := Kb.drew
      replace Kc := Kc.drew
      replace BW := BW.drew
      clear c1
      generalize World.drew _ = W0 at *
      refine pure_ (i := 0) (N := some 48) (v := ?_) (a' := ?_) #[true, false, false, false, false, false, false, false, false, false, false] rfl rfl (by kernel_rfl) (fun _ _ _ h => h) (Or.inl ⟨by rfl, ?_⟩) ?_ ?_
      rotate_left
      · intro w'
        go_simp
        with_reducible rfl
      rotate_left
      · simp only [Act.put, List.setIfInBounds_toArray, List.set_cons_zero, List.set_cons_succ, i64_w, i32_w]
        rfl
      refine pure_ (i := 1) (N := some 49) (v := ?_) (a' := ?_) #[true, true, false, false, false, false, false, false, false, false, false] rfl rfl (by kernel_rfl) (fun _ _ _ h => h) (Or.inl ⟨by rfl, ?_⟩) ?_ ?_
      rotate_left
      · intro w'
        go_simp
        with_reducible rfl
      rotate_left
      · simp only [Act.put, List.setIfInBounds_toArray, List.set_cons_zero, List.set_cons_succ, i64_w, i32_w]
        rfl
      refine pure_ (i := 2) (N := some 50) (v := ?_) (a' := ?_) #[true, true, true, false, false, false, false, false, false, false, false] rfl rfl (by kernel_rfl) (fun _ _ _ h => h) (Or.inl ⟨by rfl, ?_⟩) ?_ ?_
      rotate_left
      · intro w'
        go_simp
        with_reducible rfl
      rotate_left
      · simp only [Act.put, List.setIfInBounds_toArray, List.set_cons_zero, List.set_cons_succ, i64_w, i32_w]
        rfl
      refine pure_ (i := 3) (N := some 51) (v := ?_) (a' := ?_) #[true, true, true, true, false, false, false, false, false, false, false] rfl rfl (by kernel_rfl) (fun _ _ _ h => h) (Or.inl ⟨by rfl, ?_⟩) ?_ ?_
      rotate_left
      · intro w'
        go_simp
        with_reducible rfl
      rotate_left
      · simp only [Act.put, List.setIfInBounds_toArray, List.set_cons_zero, List.set_cons_succ, i64_w, i32_w]
        rfl
      refine pure_ (i := 4) (N := some 52) (v := ?_) (a' := ?_) #[true, true, true, true, true, false, false, false, false, false, false] rfl rfl (by kernel_rfl) (fun _ _ _ h => h) (Or.inl ⟨by rfl, ?_⟩) ?_ ?_
      rotate_left
      · intro w'
        go_simp
        with_reducible rfl
      rotate_left
      · simp only [Act.put, List.setIfInBounds_toArray, List.set_cons_zero, List.set_cons_succ, i64_w, i32_w]
        rfl
      refine pure_ (i := 6) (N := some 54) (v := ?_) (a' := ?_) #[true, true, true, true, true, false, true, false, false, false, false] rfl rfl (by kernel_rfl) (fun _ _ _ h => h) (Or.inl ⟨by rfl, ?_⟩) ?_ ?_
      rotate_left
      · intro w'
        go_simp
        with_reducible rfl
      rotate_left
      · simp only [Act.put, List.setIfInBounds_toArray, List.set_cons_zero, List.set_cons_succ, i64_w, i32_w]
        rfl
      refine pure_ (i := 8) (N := some 56) (v := ?_) (a' := ?_) #[true, true, true, true, true, false, true, false, true, false, false] rfl rfl (by kernel_rfl) (fun _ _ _ h => h) (Or.inl ⟨by rfl, ?_⟩) ?_ ?_
      rotate_left
      · intro w'
        go_simp
        with_reducible rfl
      rotate_left
      · simp only [Act.put, List.setIfInBounds_toArray, List.set_cons_zero, List.set_cons_succ, i64_w, i32_w]
        rfl
      refine take_ (i := 5) (N := some 53) (v := ?_) (a' := ?_) #[true, true, true, true, true, true, true, false, true, false, false] rfl rfl (by kernel_rfl) (fun _ _ _ h => h) (Or.inl ⟨by rfl, ?_⟩) hHeld ?_ ?_
      rotate_left
      · intro w' s0
        go_simp
        with_reducible rfl
      rotate_left
      · simp only [Act.put, List.setIfInBounds_toArray, List.set_cons_zero, List.set_cons_succ, i64_w, i32_w]
        rfl
      refine pure_ (i := 7) (N := some 55) (v := ?_) (a' := ?_) #[true, true, true, true, true, true, true, true, true, false, false] rfl rfl (by kernel_rfl) (fun _ _ _ h => h) (Or.inl ⟨by rfl, ?_⟩) ?_ ?_
      rotate_left
      · intro w'
        go_simp
        with_reducible rfl
      rotate_left
      · simp only [Act.put, List.setIfInBounds_toArray, List.set_cons_zero, List.set_cons_succ, i64_w, i32_w]
        rfl
      refine pure_ (i := 9) (N := some 57) (v := ?_) (a' := ?_) #[true, true, true, true, true, true, true, true, true, true, false] rfl rfl (by kernel_rfl) (fun _ _ _ h => h) (Or.inl ⟨by rfl, ?_⟩) ?_ ?_
      rotate_left
      · intro w'
        go_simp
        with_reducible rfl
      rotate_left
      · simp only [Act.put, List.setIfInBounds_toArray, List.set_cons_zero, List.set_cons_succ, i64_w, i32_w]
        rfl
      refine last_ (i := 10) (N := none) #[true, true, true, true, true, true, true, true, true, true, true] rfl rfl (by kernel_rfl) (by decide) (fun K hK => ?_)
      obtain ⟨⟨x0, c0⟩, f0⟩ := DD.slot 3 (by decide)
      refine skip_ (w1 := ?_) (by rfl) rfl ?_ ?_
      rotate_left
      · go_simp
        rfl
      clear c0 f0 x0
      generalize hW : World.setCell _ _ _ = W5
      replace BW : Below g w W5 := by
        rw [← hW]
        exact BW.setCell (by simp; try omega) _
      replace DD : Dg T g W5 := by
        rw [← hW]
        exact DD.set 3 (by decide) _
      replace Ka : K4 (ga) W5 := by
        rw [← hW]
        exact Ka.far _ (by simp; try omega) _
      replace Kb : K4 (ga + 1) W5 := by
        rw [← hW]
        exact Kb.far _ (by simp; try omega) _
      replace Kc : K4 (ga + 1 + 1) W5 := by
        rw [← hW]
        exact Kc.far _ (by simp; try omega) _
      clear hW
      refine hK.out _ _ ?_
      clear hK K
      refine done_ (by kernel_rfl) ?_
      go_wp2_with fail
      refine ⟨⟨4, by decide, rfl, DD, Ka, Kb, Kc, BW⟩, ?_⟩
      simp only [intOf]
      omega
    ·
      obtain ⟨a0, a1, a2, a3, hk⟩ := id Kc
      have d0 := (blk_cell hk 0).trans (show _ = some (.int .u64 a0) from rfl)
      have d1 := (blk_cell hk 1).trans (show _ = some (.int .u64 a1) from rfl)
      have d2 := (blk_cell hk 2).trans (show _ = some (.int .u64 a2) from rfl)
      have d3 := (blk_cell hk 3).trans (show _ = some (.int .u64 a3) from rfl)
      have f0 := blk_frozen hk 0
      have f1 := blk_frozen hk 1
      have f2 := blk_frozen hk 2
      have f3 := blk_frozen hk 3
      clear hk
      have E1 := Lib.hid (And.intro DD (And.intro Ka (And.intro Kb (And.intro Kc BW))))
      clear DD Ka Kb Kc BW
      go_wp2_with fail
      go_loopw [92] (fun i wr => ∃ j : Nat, j ≤ 4 ∧ i = .int .i64 (j : Int) ∧ Dg T g wr ∧ K4 ga wr ∧ K4 (ga + 1) wr ∧ K4 (ga + 1 + 1) wr ∧ Below g w wr) (fun i _ => 4 - (intOf i).toNat)
      case atStart =>
        obtain ⟨DD, Ka, Kb, Kc, BW⟩ := E1.out
        exact ⟨0, by decide, rfl, ((((DD.far _ (by simp; try omega) _).far _ (by simp; try omega) _).far _ (by simp; try omega) _).far _ (by simp; try omega) _), ((((Ka.far _ (by simp; try omega) _).far _ (by simp; try omega) _).far _ (by simp; try omega) _).far _ (by simp; try omega) _), ((((Kb.far _ (by simp; try omega) _).far _ (by simp; try omega) _).far _ (by simp; try omega) _).far _ (by simp; try omega) _), ((((Kc.set 0 (by decide) _).set 1 (by decide) _).set 2 (by decide) _).set 3 (by decide) _), ((((BW.setCell (by simp; try omega) _).setCell (by simp; try omega) _).setCell (by simp; try omega) _).setCell (by simp; try omega) _)⟩
      case round =>
        clear d0 d1 d2 d3 f0 f1 f2 f3
        clear E1
        obtain ⟨j, hj, rfl, DD, Ka, Kb, Kc, BW⟩ := hrel
        obtain rfl | rfl | rfl | rfl | rfl : j = 0 ∨ j = 1 ∨ j = 2 ∨ j = 3 ∨ j = 4 := by omega
        · have hix := fun (W : World) (a0 a1 a2 a3 : Int) => index4_0 W a0 a1 a2 a3
          go_wp2_with fail
          clear hix
          have hwz : wrap64 4 = 4 := by unfold wrap64; omega
          obtain ⟨⟨x1, c1⟩, _⟩ := Kb.cell 0 (by decide)
          refine start_ (n := 11) (S := fun w' => w'.cell? ⟨ga + 1, 0, none⟩ = some (.int .u64 x1)) (ds := [10]) #[false, false, false, false, false, false, false, false, false, false, false] (by kernel_rfl) rfl rfl (c1) (fun hHeld => ?_)
          replace DD := DD.drew
          replace Ka := Ka.drew
          replace Kb := Kb.drew
          replace Kc := Kc.drew
          replace BW := BW.drew
          clear c1
          generalize World.drew _ = W0 at *
          refine pure_ (i := 0) (N := some 96) (v := ?_) (a' := ?_) #[true, false, false, false, false, false, false, false, false, false, false] rfl rfl (by kernel_rfl) (fun _ _ _ h => h) (Or.inl ⟨by rfl, ?_⟩) ?_ ?_
          rotate_left
          · intro w'
            go_simp
            with_reducible rfl
          rotate_left
          · simp only [Act.put, List.setIfInBounds_toArray, List.set_cons_zero, List.set_cons_succ, i64_w, i32_w]
            rfl
          refine pure_ (i := 1) (N := some 97) (v := ?_) (a' := ?_) #[true, true, false, false, false, false, false, false, false, false, false] rfl rfl (by kernel_rfl) (fun _ _ _ h => h) (Or.inl ⟨by rfl, ?_⟩) ?_ ?_
          rotate_left
          · intro w'
            go_simp
            with_reducible rfl
          rotate_left
          · simp only [Act.put, List.setIfInBounds_toArray, List.set_cons_zero, List.set_cons_succ, i64_w, i32_w]
            rfl
          refine pure_ (i := 2) (N := some 98) (v := ?_) (a' := ?_) #[true, true, true, false, false, false, false, false, false, false, false] rfl rfl (by kernel_rfl) (fun _ _ _ h => h) (Or.inl ⟨by rfl, ?_⟩) ?_ ?_
          rotate_left
          · intro w'
            go_simp
            with_reducible rfl
          rotate_left
          · simp only [Act.put, List.setIfInBounds_toArray, List.set_cons_zero, List.set_cons_succ, i64_w, i32_w]
            rfl
          refine pure_ (i := 3) (N := some 99) (v := ?_) (a' := ?_) #[true, true, true, true, false, false, false, false, false, false, false] rfl rfl (by kernel_rfl) (fun _ _ _ h => h) (Or.inl ⟨by rfl, ?_⟩) ?_ ?_
          rotate_left
          · intro w'
            go_simp
            with_reducible rfl
          rotate_left
          · simp only [Act.put, List.setIfInBounds_toArray, List.set_cons_zero, List.set_cons_succ, i64_w, i32_w]
            rfl
          refine pure_ (i := 4) (N := some 100) (v := ?_) (a' := ?_) #[true, true, true, true, true, false, false, false, false, false, false] rfl rfl (by kernel_rfl) (fun _ _ _ h => h) (Or.inl ⟨by rfl, ?_⟩) ?_ ?_
          rotate_left
          · intro w'
            go_simp
            with_reducible rfl
          rotate_left
          · simp only [Act.put, List.setIfInBounds_toArray, List.set_cons_zero, List.set_cons_succ, i64_w, i32_w]
            rfl
          refine pure_ (i := 6) (N := some 102) (v := ?_) (a' := ?_) #[true, true, true, true, true, false, true, false, false, false, false] rfl rfl (by kernel_rfl) (fun _ _ _ h => h) (Or.inl ⟨by rfl, ?_⟩) ?_ ?_
          rotate_left
          · intro w'
            go_simp
            with_reducible rfl
          rotate_left
          · simp only [Act.put, List.setIfInBounds_toArray, List.set_cons_zero, List.set_cons_succ, i64_w, i32_w]
            rfl
          refine pure_ (i := 8) (N := some 104) (v := ?_) (a' := ?_) #[true, true, true, true, true, false, true, false, true, false, false] rfl rfl (by kernel_rfl) (fun _ _ _ h => h) (Or.inl ⟨by rfl, ?_⟩) ?_ ?_
          rotate_left
          · intro w'
            go_simp
            with_reducible rfl
          rotate_left
          · simp only [Act.put, List.setIfInBounds_toArray, List.set_cons_zero, List.set_cons_succ, i64_w, i32_w]
            rfl
          refine take_ (i := 5) (N := some 101) (v := ?_) (a' := ?_) #[true, true, true, true, true, true, true, false, true, false, false] rfl rfl (by kernel_rfl) (fun _ _ _ h => h) (Or.inl ⟨by rfl, ?_⟩) hHeld ?_ ?_
          rotate_left
          · intro w' s0
            go_simp
            with_reducible rfl
          rotate_left
          · simp only [Act.put, List.setIfInBounds_toArray, List.set_cons_zero, List.set_cons_succ, i64_w, i32_w]
            rfl
          refine pure_ (i := 7) (N := some 103) (v := ?_) (a' := ?_) #[true, true, true, true, true, true, true, true, true, false, false] rfl rfl (by kernel_rfl) (fun _ _ _ h => h) (Or.inl ⟨by rfl, ?_⟩) ?_ ?_
          rotate_left
          · intro w'
            go_simp
            with_reducible rfl
          rotate_left
          · simp only [Act.put, List.setIfInBounds_toArray, List.set_cons_zero, List.set_cons_succ, i64_w, i32_w]
            rfl
          refine pure_ (i := 9) (N := some 105) (v := ?_) (a' := ?_) #[true, true, true, true, true, true, true, true, true, true, false] rfl rfl (by kernel_rfl) (fun _ _ _ h => h) (Or.inl ⟨by rfl, ?_⟩) ?_ ?_
          rotate_left
          · intro w'
            go_simp
            with_reducible rfl
          rotate_left
          · simp only [Act.put, List.setIfInBounds_toArray, List.set_cons_zero, List.set_cons_succ, i64_w, i32_w]
            rfl
          refine last_ (i := 10) (N := none) #[true, true, true, true, true, true, true, true, true, true, true] rfl rfl (by kernel_rfl) (by decide) (fun K hK => ?_)
          obtain ⟨⟨x0, c0⟩, f0⟩ := DD.slot 4 (by decide)
          refine skip_ (w1 := ?_) (by rfl) rfl ?_ ?_
          rotate_left
          · go_simp
            rfl
          clear c0 f0 x0
          generalize hW : World.setCell _ _ _ = W5
          replace BW : Below g w W5 := by
            rw [← hW]
            exact BW.setCell (by simp; try omega) _
          replace DD : Dg T g W5 := by
            rw [← hW]
            exact DD.set 4 (by decide) _
          replace Ka : K4 (ga) W5 := by
            rw [← hW]
            exact Ka.far _ (by simp; try omega) _
          replace Kb : K4 (ga + 1) W5 := by
            rw [← hW]
            exact Kb.far _ (by simp; try omega) _
          replace Kc : K4 (ga + 1 + 1) W5 := by
            rw [← hW]
            exact Kc.far _ (by simp; try omega) _
          clear hW
          refine hK.out _ _ ?_
          clear hK K
          refine done_ (by kernel_rfl) ?_
          go_wp2_with fail
          refine ⟨⟨1, by decide, rfl, DD, Ka, Kb, Kc, BW⟩, ?_⟩
          simp only [intOf]
          omega
        · have hix := fun (W : World) (a0 a1 a2 a3 : Int) => index4_1 W a0 a1 a2 a3
          go_wp2_with fail
          clear hix
          have hwz : wrap64 5 = 5 := by unfold wrap64; omega
          obtain ⟨⟨x1, c1⟩, _⟩ := Kb.cell 1 (by decide)
          refine start_ (n := 11) (S := fun w' => w'.cell? ⟨ga + 1, 1, none⟩ = some (.int .u64 x1)) (ds := [10]) #[false, false, false, false, false, false, false, false, false, false, false] (by kernel_rfl) rfl rfl (c1) (fun hHeld => ?_)
          replace DD := DD.drew
          replace Ka := Ka.drew
          replace Kb := Kb.drew
          replace Kc := Kc.drew
          replace BW := BW.drew
          clear c1
          generalize World.drew _ = W0 at *
          refine pure_ (i := 0) (N := some 96) (v := ?_) (a' := ?_) #[true, false, false, false, false, false, false, false, false, false, false] rfl rfl (by kernel_rfl) (fun _ _ _ h => h) (Or.inl ⟨by rfl, ?_⟩) ?_ ?_
          rotate_left
          · intro w'
            go_simp
            with_reducible rfl
          rotate_left
          · simp only [Act.put, List.setIfInBounds_toArray, List.set_cons_zero, List.set_cons_succ, i64_w, i32_w]
            rfl
          refine pure_ (i := 1) (N := some 97) (v := ?_) (a' := ?_) #[true, true, false, false, false, false, false, false, false, false, false] rfl rfl (by kernel_rfl) (fun _ _ _ h => h) (Or.inl ⟨by rfl, ?_⟩) ?_ ?_
          rotate_left
          · intro w'
            go_simp
            with_reducible rfl
          rotate_left
          · simp only [Act.put, List.setIfInBounds_toArray, List.set_cons_zero, List.set_cons_succ, i64_w, i32_w]
            rfl
          refine pure_ (i := 2) (N := some 98) (v := ?_) (a' := ?_) #[true, true, true, false, false, false, false, false, false, false, false] rfl rfl (by kernel_rfl) (fun _ _ _ h => h) (Or.inl ⟨by rfl, ?_⟩) ?_ ?_
          rotate_left
          · intro w'
            go_simp
            with_reducible rfl
          rotate_left
          · simp only [Act.put, List.setIfInBounds_toArray, List.set_cons_zero, List.set_cons_succ, i64_w, i32_w]
            rfl
          refine pure_ (i := 3) (N := some 99) (v := ?_) (a' := ?_) #[true, true, true, true, false, false, false, false, false, false, false] rfl rfl (by kernel_rfl) (fun _ _ _ h => h) (Or.inl ⟨by rfl, ?_⟩) ?_ ?_
          rotate_left
          · intro w'
            go_simp
            with_reducible rfl
          rotate_left
          · simp only [Act.put, List.setIfInBounds_toArray, List.set_cons_zero, List.set_cons_succ, i64_w, i32_w]
            rfl
          refine pure_ (i := 4) (N := some 100) (v := ?_) (a' := ?_) #[true, true, true, true, true, false, false, false, false, false, false] rfl rfl (by kernel_rfl) (fun _ _ _ h => h) (Or.inl ⟨by rfl, ?_⟩) ?_ ?_
          rotate_left
          · intro w'
            go_simp
            with_reducible rfl
          rotate_left
          · simp only [Act.put, List.setIfInBounds_toArray, List.set_cons_zero, List.set_cons_succ, i64_w, i32_w]
            rfl
          refine pure_ (i := 6) (N := some 102) (v := ?_) (a' := ?_) #[true, true, true, true, true, false, true, false, false, false, false] rfl rfl (by kernel_rfl) (fun _ _ _ h => h) (Or.inl ⟨by rfl, ?_⟩) ?_ ?_
          rotate_left
          · intro w'
            go_simp
            with_reducible rfl
          rotate_left
          · simp only [Act.put, List.setIfInBounds_toArray, List.set_cons_zero, List.set_cons_succ, i64_w, i32_w]
            rfl
          refine pure_ (i := 8) (N := some 104) (v := ?_) (a' := ?_) #[true, true, true, true, true, false, true, false, true, false, false] rfl rfl (by kernel_rfl) (fun _ _ _ h => h) (Or.inl ⟨by rfl, ?_⟩) ?_ ?_
          rotate_left
          · intro w'
            go_simp
            with_reducible rfl
          rotate_left
          · simp only [Act.put, List.setIfInBounds_toArray, List.set_cons_zero, List.set_cons_succ, i64_w, i32_w]
            rfl
          refine take_ (i := 5) (N := some 101) (v := ?_) (a' := ?_) #[true, true, true, true, true, true, true, false, true, false, false] rfl rfl (by kernel_rfl) (fun _ _ _ h => h) (Or.inl ⟨by rfl, ?_⟩) hHeld ?_ ?_
          rotate_left
          · intro w' s0
            go_simp
            with_reducible rfl
          rotate_left
          · simp only [Act.put, List.setIfInBounds_toArray, List.set_cons_zero, List.set_cons_succ, i64_w, i32_w]
            rfl
          refine pure_ (i := 7) (N := some 103) (v := ?_) (a' := ?_) #[true, true, true, true, true, true, true, true, true, false, false] rfl rfl (by kernel_rfl) (fun _ _ _ h => h) (Or.inl ⟨by rfl, ?_⟩) ?_ ?_
          rotate_left
          · intro w'
            go_simp
            with_reducible rfl
          rotate_left
          · simp only [Act.put, List.setIfInBounds_toArray, List.set_cons_zero, List.set_cons_succ, i64_w, i32_w]
            rfl
          refine pure_ (i := 9) (N := some 105) (v := ?_) (a' := ?_) #[true, true, true, true, true, true, true, true, true, true, false] rfl rfl (by kernel_rfl) (fun _ _ _ h => h) (Or.inl ⟨by rfl, ?_⟩) ?_ ?_
          rotate_left
          · intro w'
            go_simp
            with_reducible rfl
          rotate_left
          · simp only [Act.put, List.setIfInBounds_toArray, List.set_cons_zero, List.set_cons_succ, i64_w, i32_w]
            rfl
          refine last_ (i := 10) (N := none) #[true, true, true, true, true, true, true, true, true, true, true] rfl rfl (by kernel_rfl) (by decide) (fun K hK => ?_)
          obtain ⟨⟨x0, c0⟩, f0⟩ := DD.slot 5 (by decide)
          refine skip_ (w1 := ?_) (by rfl) rfl ?_ ?_
          rotate_left
          · go_simp
            rfl
          clear c0 f0 x0
          generalize hW : World.setCell _ _ _ = W5
          replace BW : Below g w W5 := by
            rw [← hW]
            exact BW.setCell (by simp; try omega) _
          replace DD : Dg T g W5 := by
            rw [← hW]
            exact DD.set 5 (by decide) _
          replace Ka : K4 (ga) W5 := by
            rw [← hW]
            exact Ka.far _ (by simp; try omega) _
          replace Kb : K4 (ga + 1) W5 := by
            rw [← hW]
            exact Kb.far _ (by simp; try omega) _
          replace Kc : K4 (ga + 1 + 1) W5 := by
            rw [← hW]
            exact Kc.far _ (by simp; try omega) _
          clear hW
          refine hK.out _ _ ?_
          clear hK K
          refine done_ (by kernel_rfl) ?_
          go_wp2_with fail
          refine ⟨⟨2, by decide, rfl, DD, Ka, Kb, Kc, BW⟩, ?_⟩
          simp only [intOf]
          omega
        · have hix := fun (W : World) (a0 a1 a2 a3 : Int) => index4_2 W a0 a1 a2 a3
          go_wp2_with fail
          clear hix
          have hwz : wrap64 6 = 6 := by unfold wrap64; omega
          obtain ⟨⟨x1, c1⟩, _⟩ := Kb.cell 2 (by decide)
          refine start_ (n := 11) (S := fun w' => w'.cell? ⟨ga + 1, 2, none⟩ = some (.int .u64 x1)) (ds := [10]) #[false, false, false, false, false, false, false, false, false, false, false] (by kernel_rfl) rfl rfl (c1) (fun hHeld => ?_)
          replace DD := DD.drew
          replace Ka := Ka.drew
          replace Kb := Kb.drew
          replace Kc := Kc.drew
          replace BW := BW.drew
          clear c1
          generalize World.drew _ = W0 at *
          refine pure_ (i := 0) (N := some 96) (v := ?_) (a' := ?_) #[true, false, false, false, false, false, false, false, false, false, false] rfl rfl (by kernel_rfl) (fun _ _ _ h => h) (Or.inl ⟨by rfl, ?_⟩) ?_ ?_
          rotate_left
          · intro w'
            go_simp
            with_reducible rfl
          rotate_left
          · simp only [Act.put, List.setIfInBounds_toArray, List.set_cons_zero, List.set_cons_succ, i64_w, i32_w]
            rfl
          refine pure_ (i := 1) (N := some 97) (v := ?_) (a' := ?_) #[true, true, false, false, false, false, false, false, false, false, false] rfl rfl (by kernel_rfl) (fun _ _ _ h => h) (Or.inl ⟨by rfl, ?_⟩) ?_ ?_
          rotate_left
          · intro w'
            go_simp
            with_reducible rfl
          rotate_left
          · simp only [Act.put, List.setIfInBounds_toArray, List.set_cons_zero, List.set_cons_succ, i64_w, i32_w]
            rfl
          refine pure_ (i := 2) (N := some 98) (v := ?_) (a' := ?_) #[true, true, true, false, false, false, false, false, false, false, false] rfl rfl (by kernel_rfl) (fun _ _ _ h => h) (Or.inl ⟨by rfl, ?_⟩) ?_ ?_
          rotate_left
          · intro w'
            go_simp
            with_reducible rfl
          rotate_left
          · simp only [Act.put, List.setIfInBounds_toArray, List.set_cons_zero, List.set_cons_succ, i64_w, i32_w]
            rfl
          refine pure_ (i := 3) (N := some 99) (v := ?_) (a' := ?_) #[true, true, true, true, false, false, false, false, false, false, false] rfl rfl (by kernel_rfl) (fun _ _ _ h => h) (Or.inl ⟨by rfl, ?_⟩) ?_ ?_
          rotate_left
          · intro w'
            go_simp
            with_reducible rfl
          rotate_left
          · simp only [Act.put, List.setIfInBounds_toArray, List.set_cons_zero, List.set_cons_succ, i64_w, i32_w]
            rfl
          refine pure_ (i := 4) (N := some 100) (v := ?_) (a' := ?_) #[true, true, true, true, true, false, false, false, false, false, false] rfl rfl (by kernel_rfl) (fun _ _ _ h => h) (Or.inl ⟨by rfl, ?_⟩) ?_ ?_
          rotate_left
          · intro w'
            go_simp
            with_reducible rfl
          rotate_left
          · simp only [Act.put, List.setIfInBounds_toArray, List.set_cons_zero, List.set_cons_succ, i64_w, i32_w]
            rfl
          refine pure_ (i := 6) (N := some 102) (v := ?_) (a' := ?_) #[true, true, true, true, true, false, true, false, false, false, false] rfl rfl (by kernel_rfl) (fun _ _ _ h => h) (Or.inl ⟨by rfl, ?_⟩) ?_ ?_
          rotate_left
          · intro w'
            go_simp
            with_reducible rfl
          rotate_left
          · simp only [Act.put, List.setIfInBounds_toArray, List.set_cons_zero, List.set_cons_succ, i64_w, i32_w]
            rfl
          refine pure_ (i := 8) (N := some 104) (v := ?_) (a' := ?_) #[true, true, true, true, true, false, true, false, true, false, false] rfl rfl (by kernel_rfl) (fun _ _ _ h => h) (Or.inl ⟨by rfl, ?_⟩) ?_ ?_
          rotate_left
          · intro w'
            go_simp
            with_reducible rfl
          rotate_left
          · simp only [Act.put, List.setIfInBounds_toArray, List.set_cons_zero, List.set_cons_succ, i64_w, i32_w]
            rfl
          refine take_ (i := 5) (N := some 101) (v := ?_) (a' := ?_) #[true, true, true, true, true, true, true, false, true, false, false] rfl rfl (by kernel_rfl) (fun _ _ _ h => h) (Or.inl ⟨by rfl, ?_⟩) hHeld ?_ ?_
          rotate_left
          · intro w' s0
            go_simp
            with_reducible rfl
          rotate_left
          · simp only [Act.put, List.setIfInBounds_toArray, List.set_cons_zero, List.set_cons_succ, i64_w, i32_w]
            rfl
          refine pure_ (i := 7) (N := some 103) (v := ?_) (a' := ?_) #[true, true, true, true, true, true, true, true, true, false, false] rfl rfl (by kernel_rfl) (fun _ _ _ h => h) (Or.inl ⟨by rfl, ?_⟩) ?_ ?_
          rotate_left
          · intro w'
            go_simp
            with_reducible rfl
          rotate_left
          · simp only [Act.put, List.setIfInBounds_toArray, List.set_cons_zero, List.set_cons_succ, i64_w, i32_w]
            rfl
          refine pure_ (i := 9) (N := some 105) (v := ?_) (a' := ?_) #[true, true, true, true, true, true, true, true, true, true, false] rfl rfl (by kernel_rfl) (fun _ _ _ h => h) (Or.inl ⟨by rfl, ?_⟩) ?_ ?_
          rotate_left
          · intro w'
            go_simp
            with_reducible rfl
          rotate_left
          · simp only [Act.put, List.setIfInBounds_toArray, List.set_cons_zero, List.set_cons_succ, i64_w, i32_w]
            rfl
          refine last_ (i := 10) (N := none) #[true, true, true, true, true, true, true, true, true, true, true] rfl rfl (by kernel_rfl) (by decide) (fun K hK => ?_)
          obtain ⟨⟨x0, c0⟩, f0⟩ := DD.slot 6 (by decide)
          refine skip_ (w1 := ?_) (by rfl) rfl ?_ ?_
          rotate_left
          · go_simp
            rfl
          clear c0 f0 x0
          generalize hW : World.setCell _ _ _ = W5
          replace BW : Below g w W5 := by
            rw [← hW]
            exact BW.setCell (by simp; try omega) _
          replace DD : Dg T g W5 := by
            rw [← hW]
            exact DD.set 6 (by decide) _
          replace Ka : K4 (ga) W5 := by
            rw [← hW]
            exact Ka.far _ (by simp; try omega) _
          replace Kb : K4 (ga + 1) W5 := by
            rw [← hW]
            exact Kb.far _ (by simp; try omega) _
          replace Kc : K4 (ga + 1 + 1) W5 := by
            rw [← hW]
            exact Kc.far _ (by simp; try omega) _
          clear hW
          refine hK.out _ _ ?_
          clear hK K
          refine done_ (by kernel_rfl) ?_
          go_wp2_with fail
          refine ⟨⟨3, by decide, rfl, DD, Ka, Kb, Kc, BW⟩, ?_⟩
          simp only [intOf]
          omega
        · have hix := fun (W : World) (a0 a1 a2 a3 : Int) => index4_3 W a0 a1 a2 a3
          go_wp2_with fail
          clear hix
          have hwz : wrap64 7 = 7 := by unfold wrap64; omega
          obtain ⟨⟨x1, c1⟩, _⟩ := Kb.cell 3 (by decide)
          refine start_ (n := 11) (S := fun w' => w'.cell? ⟨ga + 1, 3, none⟩ = some (.int .u64 x1)) (ds := [10]) #[false, false, false, false, false, false, false, false, false, false, false] (by kernel_rfl) rfl rfl (c1) (fun hHeld => ?_)
          replace DD := DD.drew
          replace Ka := Ka.drew
          replace Kb := Kb.drew
          replace Kc := Kc.drew
          replace BW := BW.drew
          clear c1
          generalize World.drew _ = W0 at *
          refine pure_ (i := 0) (N := some 96) (v := ?_) (a' := ?_) #[true, false, false, false, false, false, false, false, false, false, false] rfl rfl (by kernel_rfl) (fun _ _ _ h => h) (Or.inl ⟨by rfl, ?_⟩) ?_ ?_
          rotate_left
          · intro w'
            go_simp
            with_reducible rfl
          rotate_left
          · simp only [Act.put, List.setIfInBounds_toArray, List.set_cons_zero, List.set_cons_succ, i64_w, i32_w]
            rfl
          refine pure_ (i := 1) (N := some 97) (v := ?_) (a' := ?_) #[true, true, false, false, false, false, false, false, false, false, false] rfl rfl (by kernel_rfl) (fun _ _ _ h => h) (Or.inl ⟨by rfl, ?_⟩) ?_ ?_
          rotate_left
          · intro w'
            go_simp
            with_reducible rfl
          rotate_left
          · simp only [Act.put, List.setIfInBounds_toArray, List.set_cons_zero, List.set_cons_succ, i64_w, i32_w]
            rfl
          refine pure_ (i := 2) (N := some 98) (v := ?_) (a' := ?_) #[true, true, true, false, false, false, false, false, false, false, false] rfl rfl (by kernel_rfl) (fun _ _ _ h => h) (Or.inl ⟨by rfl, ?_⟩) ?_ ?_
          rotate_left
          · intro w'
            go_simp
            with_reducible rfl
          rotate_left
          · simp only [Act.put, List.setIfInBounds_toArray, List.set_cons_zero, List.set_cons_succ, i64_w, i32_w]
            rfl
          refine pure_ (i := 3) (N := some 99) (v := ?_) (a' := ?_) #[true, true, true, true, false, false, false, false, false, false, false] rfl rfl (by kernel_rfl) (fun _ _ _ h => h) (Or.inl ⟨by rfl, ?_⟩) ?_ ?_
          rotate_left
          · intro w'
            go_simp
            with_reducible rfl
          rotate_left
          · simp only [Act.put, List.setIfInBounds_toArray, List.set_cons_zero, List.set_cons_succ, i64_w, i32_w]
            rfl
          refine pure_ (i := 4) (N := some 100) (v := ?_) (a' := ?_) #[true, true, true, true, true, false, false, false, false, false, false] rfl rfl (by kernel_rfl) (fun _ _ _ h => h) (Or.inl ⟨by rfl, ?_⟩) ?_ ?_
          rotate_left
          · intro w'
            go_simp
            with_reducible rfl
          rotate_left
          · simp only [Act.put, List.setIfInBounds_toArray, List.set_cons_zero, List.set_cons_succ, i64_w, i32_w]
            rfl
          refine pure_ (i := 6) (N := some 102) (v := ?_) (a' := ?_) #[true, true, true, true, true, false, true, false, false, false, false] rfl rfl (by kernel_rfl) (fun _ _ _ h => h) (Or.inl ⟨by rfl, ?_⟩) ?_ ?_
          rotate_left
          · intro w'
            go_simp
            with_reducible rfl
          rotate_left
          · simp only [Act.put, List.setIfInBounds_toArray, List.set_cons_zero, List.set_cons_succ, i64_w, i32_w]
            rfl
          refine pure_ (i := 8) (N := some 104) (v := ?_) (a' := ?_) #[true, true, true, true, true, false, true, false, true, false, false] rfl rfl (by kernel_rfl) (fun _ _ _ h => h) (Or.inl ⟨by rfl, ?_⟩) ?_ ?_
          rotate_left
          · intro w'
            go_simp
            with_reducible rfl
          rotate_left
          · simp only [Act.put, List.setIfInBounds_toArray, List.set_cons_zero, List.set_cons_succ, i64_w, i32_w]
            rfl
          refine take_ (i := 5) (N := some 101) (v := ?_) (a' := ?_) #[true, true, true, true, true, true, true, false, true, false, false] rfl rfl (by kernel_rfl) (fun _ _ _ h => h) (Or.inl ⟨by rfl, ?_⟩) hHeld ?_ ?_
          rotate_left
          · intro w' s0
            go_simp
            with_reducible rfl
          rotate_left
          · simp only [Act.put, List.setIfInBounds_toArray, List.set_cons_zero, List.set_cons_succ, i64_w, i32_w]
            rfl
          refine pure_ (i := 7) (N := some 103) (v := ?_) (a' := ?_) #[true, true, true, true, true, true, true, true, true, false, false] rfl rfl (by kernel_rfl) (fun _ _ _ h => h) (Or.inl ⟨by rfl, ?_⟩) ?_ ?_
          rotate_left
          · intro w'
            go_simp
            with_reducible rfl
          rotate_left
          · simp only [Act.put, List.setIfInBounds_toArray, List.set_cons_zero, List.set_cons_succ, i64_w, i32_w]
            rfl
          refine pure_ (i := 9) (N := some 105) (v := ?_) (a' := ?_) #[true, true, true, true, true, true, true, true, true, true, false] rfl rfl (by kernel_rfl) (fun _ _ _ h => h) (Or.inl ⟨by rfl, ?_⟩) ?_ ?_
          rotate_left
          · intro w'
            go_simp
            with_reducible rfl
          rotate_left
          · simp only [Act.put, List.setIfInBounds_toArray, List.set_cons_zero, List.set_cons_succ, i64_w, i32_w]
            rfl
          refine last_ (i := 10) (N := none) #[true, true, true, true, true, true, true, true, true, true, true] rfl rfl (by kernel_rfl) (by decide) (fun K hK => ?_)
          obtain ⟨⟨x0, c0⟩, f0⟩ := DD.slot 7 (by decide)
          refine skip_ (w1 := ?_) (by rfl) rfl ?_ ?_
          rotate_left
          · go_simp
            rfl
          clear c0 f0 x0
          generalize hW : World.setCell _ _ _ = W5
          replace BW : Below g w W5 := by
            rw [← hW]
            exact BW.setCell (by simp; try omega) _
          replace DD : Dg T g W5 := by
            rw [← hW]
            exact DD.set 7 (by decide) _
          replace Ka : K4 (ga) W5 := by
            rw [← hW]
            exact Ka.far _ (by simp; try omega) _
          replace Kb : K4 (ga + 1) W5 := by
            rw [← hW]
            exact Kb.far _ (by simp; try omega) _
          replace Kc : K4 (ga + 1 + 1) W5 := by
            rw [← hW]
            exact Kc.far _ (by simp; try omega) _
          clear hW
          refine hK.out _ _ ?_
          clear hK K
          refine done_ (by kernel_rfl) ?_
          go_wp2_with fail
          refine ⟨⟨4, by decide, rfl, DD, Ka, Kb, Kc, BW⟩, ?_⟩
          simp only [intOf]
          omega
        · have E1 := Lib.hid (And.intro DD (And.intro Ka (And.intro Kb (And.intro Kc BW))))
          clear DD Ka Kb Kc BW
          go_wp2_with fail
          refine bodyPost_end (results_none rfl _ _ _) rfl ?_
          obtain ⟨DD, Ka, Kb, Kc, BW⟩ := E1.out
          exact ⟨rfl, DD, BW⟩
end Go.Proofs.YtnehminojlocoaaDoor.PAll
