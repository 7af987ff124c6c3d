/- impl.HighwayRun with no steps. Printed by gen/hwrun.py. -/
import Derived.Test.YtnehminojlocoaaDoorHwHigh
namespace Go.Proofs.YtnehminojlocoaaDoor.PAll
open Go.RowKit Go.Proofs.YtnehminojlocoaaDoorW.PrintWords Go.Proofs.YtnehminojlocoaaDoorW.PrintLast Go.Proofs.YtnehminojlocoaaDoorW.PrintMore
set_option linter.unusedVariables false
set_option linter.unusedSimpArgs false
/-- A block of two numbers. -/
def K2 (t : Nat) (W : World) : Prop := ∃ a b : Int, W.heap[t]? = some (.cells #[.int .i64 a, .int .i64 b] 24 (0, 0))
theorem K2.on {t : Nat} {W W' : World} (h : K2 t W) (h' : Below W.heap.size W W') : K2 t W' := by
  obtain ⟨a, b, h1⟩ := h
  exact ⟨a, b, hb_on h1 h'⟩
theorem K2.set2 {t : Nat} {W : World} (h : K2 t W) (x y : Int) : ((W.setCell ⟨t, 0, none⟩ (.int .i64 x)).setCell ⟨t, 1, none⟩ (.int .i64 y)).heap[t]? = some (.cells #[.int .i64 x, .int .i64 y] 24 (0, 0)) := by
  obtain ⟨a, b, h1⟩ := h
  exact hb_set (hb_set h1 0 (.int .i64 x)) 1 (.int .i64 y)
set_option maxHeartbeats 4000000 in
set_option maxRecDepth 100000 in
theorem size_walk (T g : Nat) (w : World) (hd : Dg T g w) :
    Calls Tryd.prog 70 #[.pointer (some ⟨g, 0, none⟩)] w fun e w' => (∃ z, e = .returned (.int .i64 z)) ∧ Below w.heap.size w w' := by
  obtain ⟨z, c0⟩ := hd.size
  go_enter Tryd.func70, Tryd.ntmps70
  go_wp2_with fail
  go_ret
  exact ⟨⟨_, rfl⟩, Below.refl _ _⟩
theorem block_walk (p : Addr) (w : World) :
    Calls Tryd.prog 69 #[.pointer (some p)] w fun e w' => (∃ z, e = .returned (.int .i64 z)) ∧ Below w.heap.size w w' := by
  go_enter Tryd.func69, Tryd.ntmps69
  go_wp2_with fail
  go_ret
  exact ⟨⟨_, rfl⟩, Below.refl _ _⟩
set_option maxHeartbeats 4000000 in
set_option maxRecDepth 100000 in
theorem run_no (sz : Int) (A : Option Addr) (n c : Nat) (d : Bool) (w : World) (hH : Hid (∀ W, Below w.heap.size w W → Calls Tryd.prog 15 #[.int .i64 sz, .slice A n c, .bool d] W fun e W' => (∃ v, e = .returned (.tuple #[v, .bool false])) ∧ Below W.heap.size W W')) :
    Calls Tryd.prog 7 #[.int .i64 sz, .slice A n c, .bool d, .slice none 0 0] w fun e w' => (∃ v0 v1, ∃ x y : Int, e = .returned (.tuple #[v0, v1, .agg #[.int .i64 x, .int .i64 y], .bool false])) ∧ Below w.heap.size w w' := by
  go_enter Tryd.func7, Tryd.ntmps7
  go_wp2_with fail
  have B0 : Below w.heap.size w (w.alloc (.cells #[.int .i64 0, .int .i64 0] 24)) := (Below.refl _ _).alloc (Nat.le_refl _) _
  refine (hH.out _ B0).mono ?_
  rintro e w1 ⟨⟨v, rfl⟩, hb⟩
  have KT : K2 w.heap.size w1 := K2.on ⟨_, _, (MapKept.heap_alloc w (.cells #[.int .i64 0, .int .i64 0] 24)).1⟩ hb
  have HB := Lib.hid (And.intro KT (B0.trans (hb.mono B0.size)))
  clear KT hb B0
  go_wp2_with fail
  obtain ⟨KT, BW⟩ := HB.out
  generalize ht : w.heap.size = t at KT BW ⊢
  obtain ⟨x0, x1, hk⟩ := id KT
  have c0 := (blk_cell hk 0).trans (show _ = some (.int .i64 x0) from rfl)
  have c1 := (blk_cell hk 1).trans (show _ = some (.int .i64 x1) from rfl)
  have f0 := blk_frozen hk 0
  have f1 := blk_frozen hk 1
  refine start_ (n := 5) (S := fun w' => w'.cell? ⟨t, 0, none⟩ = some (.int .i64 x0) ∧ w'.cell? ⟨t, 1, none⟩ = some (.int .i64 x1)) (ds := [3]) #[false, false, false, false, false] (by kernel_rfl) rfl rfl ⟨c0, c1⟩ (fun hHeld => ?_)
  refine pure_ (i := 1) (N := some 8) (v := ?_) (a' := ?_) #[false, true, false, false, false] rfl rfl (by kernel_rfl) (fun _ _ _ h => h) (Or.inl ⟨by rfl, ?_⟩) ?_ ?_
  rotate_left
  · intro w'
    go_simp
    with_reducible rfl
  rotate_left
  · simp only [Act.put, List.setIfInBounds_toArray, List.set_cons_zero, List.set_cons_succ, i64_w, i32_w]
    rfl
  refine pure_ (i := 2) (N := some 9) (v := ?_) (a' := ?_) #[false, true, true, false, false] rfl rfl (by kernel_rfl) (fun _ _ _ h => h) (Or.inl ⟨by rfl, ?_⟩) ?_ ?_
  rotate_left
  · intro w'
    go_simp
    with_reducible rfl
  rotate_left
  · simp only [Act.put, List.setIfInBounds_toArray, List.set_cons_zero, List.set_cons_succ, i64_w, i32_w]
    rfl
  refine take_ (i := 0) (N := some 28) (v := ?_) (a' := ?_) #[true, true, true, false, false] rfl rfl (by kernel_rfl) (fun _ _ _ h => h) (Or.inl ⟨by rfl, ?_⟩) hHeld ?_ ?_
  rotate_left
  · rintro w' ⟨s0, s1⟩
    go_simp
    with_reducible rfl
  rotate_left
  · simp only [Act.put, List.setIfInBounds_toArray, List.set_cons_zero, List.set_cons_succ, i64_w, i32_w]
    rfl
  refine last_ (i := 3) (N := none) #[true, true, true, true, false] rfl rfl (by kernel_rfl) (by decide) (fun K hK => ?_)
  refine skip_ (w1 := ?_) (by rfl) rfl ?_ ?_
  rotate_left
  · go_simp
    rfl
  refine hK.out _ _ ?_
  clear hK K
  refine pure_ (i := 4) (N := some 11) (v := ?_) (a' := ?_) #[true, true, true, true, true] rfl rfl (by kernel_rfl) (fun _ _ _ h => h) (Or.inl ⟨by rfl, ?_⟩) ?_ ?_
  rotate_left
  · intro w'
    go_simp
    with_reducible rfl
  rotate_left
  · simp only [Act.put, List.setIfInBounds_toArray, List.set_cons_zero, List.set_cons_succ, i64_w, i32_w]
    rfl
  refine done_ (by kernel_rfl) ?_
  generalize hW : World.drew _ = W5
  have KF : W5.heap[t]? = some (.cells #[.int .i64 x0, .int .i64 x1] 24 (0, 0)) := by
    rw [← hW]
    exact KT.set2 x0 x1
  have BF : Below t w W5 := by
    rw [← hW]
    exact ((BW.setCell (p := ⟨t, 0, none⟩) (Nat.le_refl _) _).setCell (p := ⟨t, 1, none⟩) (Nat.le_refl _) _).drew
  have d0 := (blk_cell KF 0).trans (show _ = some (.int .i64 x0) from rfl)
  have d1 := (blk_cell KF 1).trans (show _ = some (.int .i64 x1) from rfl)
  clear hW KF KT BW c0 c1 f0 f1 hk
  have E1 := Lib.hid BF
  clear BF
  go_wp2_with fail
  subst ht
  refine bodyPost_ret (v := .tuple #[.slice none 0 0, .bool false, .agg #[.int .i64 x0, .int .i64 x1], .bool false]) (by simp [results, Tryd.results7, go_sem, d0, d1]) rfl ⟨⟨_, _, _, _, rfl⟩, E1.out⟩
set_option maxHeartbeats 4000000 in
set_option maxRecDepth 100000 in
theorem run_yes_d64 (sz : Int) (A : Option Addr) (n c : Nat) (d : Bool) (w : World) (hH : Hid (∀ W, Below w.heap.size w W → Calls Tryd.prog 15 #[.int .i64 sz, .slice A n c, .bool d] W fun e W' => ∃ g, e = .returned (.tuple #[.iface 73 (.pointer (some ⟨g, 0, none⟩)), .bool true]) ∧ Dg 104 g W' ∧ Below W.heap.size W W')) :
    Calls Tryd.prog 7 #[.int .i64 sz, .slice A n c, .bool d, .slice none 0 0] w fun e w' => (∃ v0 v1, ∃ x y : Int, e = .returned (.tuple #[v0, v1, .agg #[.int .i64 x, .int .i64 y], .bool true])) ∧ Below w.heap.size w w' := by
  go_enter Tryd.func7, Tryd.ntmps7
  go_wp2_with fail
  have B0 : Below w.heap.size w (w.alloc (.cells #[.int .i64 0, .int .i64 0] 24)) := (Below.refl _ _).alloc (Nat.le_refl _) _
  refine (hH.out _ B0).mono ?_
  rintro e w1 ⟨g, rfl, hd, hb⟩
  have KT : K2 w.heap.size w1 := K2.on ⟨_, _, (MapKept.heap_alloc w (.cells #[.int .i64 0, .int .i64 0] 24)).1⟩ hb
  have HB := Lib.hid (And.intro hd (And.intro KT (B0.trans (hb.mono B0.size))))
  clear KT hb B0 hd
  go_wp2_with fail
  refine wp_loop_once ?_
  have hm1 : ∀ (g : Nat) (w : World), (method 229 73 (.pointer (some ⟨g, 0, none⟩)) "Size").run Tryd.prog w = .ok (70, .pointer (some ⟨g, 0, none⟩)) w := fun _ _ => by kernel_rfl
  have hm2 : ∀ (g : Nat) (w : World), (method 229 73 (.pointer (some ⟨g, 0, none⟩)) "BlockSize").run Tryd.prog w = .ok (69, .pointer (some ⟨g, 0, none⟩)) w := fun _ _ => by kernel_rfl
  go_wp2_with fail
  refine (size_walk 104 g _ HB.out.1).mono ?_
  rintro e w2 ⟨⟨z1, rfl⟩, hb2⟩
  have HB2 := Lib.hid (And.intro (HB.out.2.1.on hb2) (HB.out.2.2.trans (hb2.mono HB.out.2.2.size)))
  clear hb2 HB
  go_wp2_with fail
  refine (block_walk _ _).mono ?_
  rintro e w3 ⟨⟨z2, rfl⟩, hb3⟩
  have HB3 := Lib.hid (And.intro (HB2.out.1.on hb3) (HB2.out.2.trans (hb3.mono HB2.out.2.size)))
  clear hb3 HB2 hm1 hm2
  obtain ⟨KT, BW⟩ := HB3.out
  obtain ⟨x0, x1, hk⟩ := id KT
  have c0 := (blk_cell hk 0).trans (show _ = some (.int .i64 x0) from rfl)
  have c1 := (blk_cell hk 1).trans (show _ = some (.int .i64 x1) from rfl)
  have f0 := blk_frozen hk 0
  have f1 := blk_frozen hk 1
  clear hk KT BW
  go_wp2_with fail
  obtain ⟨KT, BW⟩ := HB3.out
  have KT1 : K2 w.heap.size ((w3.setCell ⟨w.heap.size, 0, none⟩ (.int .i64 z1)).setCell ⟨w.heap.size, 1, none⟩ (.int .i64 z2)) := ⟨_, _, KT.set2 z1 z2⟩
  have BW1 : Below w.heap.size w ((w3.setCell ⟨w.heap.size, 0, none⟩ (.int .i64 z1)).setCell ⟨w.heap.size, 1, none⟩ (.int .i64 z2)) := (BW.setCell (p := ⟨w.heap.size, 0, none⟩) (Nat.le_refl _) _).setCell (p := ⟨w.heap.size, 1, none⟩) (Nat.le_refl _) _
  clear c0 c1 f0 f1 KT BW HB3 x0 x1
  generalize (w3.setCell ⟨w.heap.size, 0, none⟩ (.int .i64 z1)).setCell ⟨w.heap.size, 1, none⟩ (.int .i64 z2) = w4 at KT1 BW1 ⊢
  have KT := KT1
  have BW := BW1
  clear KT1 BW1
  generalize ht : w.heap.size = t at KT BW ⊢
  obtain ⟨x0, x1, hk⟩ := id KT
  have c0 := (blk_cell hk 0).trans (show _ = some (.int .i64 x0) from rfl)
  have c1 := (blk_cell hk 1).trans (show _ = some (.int .i64 x1) from rfl)
  have f0 := blk_frozen hk 0
  have f1 := blk_frozen hk 1
  refine start_ (n := 7) (S := fun w' => w'.cell? ⟨t, 0, none⟩ = some (.int .i64 x0) ∧ w'.cell? ⟨t, 1, none⟩ = some (.int .i64 x1)) (ds := [5]) #[false, false, false, false, false, false, false] (by kernel_rfl) rfl rfl ⟨c0, c1⟩ (fun hHeld => ?_)
  refine pure_ (i := 0) (N := some 101) (v := ?_) (a' := ?_) #[true, false, false, false, false, false, false] rfl rfl (by kernel_rfl) (fun _ _ _ h => h) (Or.inl ⟨by rfl, ?_⟩) ?_ ?_
  rotate_left
  · intro w'
    go_simp
    with_reducible rfl
  rotate_left
  · simp only [Act.put, List.setIfInBounds_toArray, List.set_cons_zero, List.set_cons_succ, i64_w, i32_w]
    rfl
  refine pure_ (i := 1) (N := some 102) (v := ?_) (a' := ?_) #[true, true, false, false, false, false, false] rfl rfl (by kernel_rfl) (fun _ _ _ h => h) (Or.inl ⟨by rfl, ?_⟩) ?_ ?_
  rotate_left
  · intro w'
    go_simp
    with_reducible rfl
  rotate_left
  · simp only [Act.put, List.setIfInBounds_toArray, List.set_cons_zero, List.set_cons_succ, i64_w, i32_w]
    rfl
  refine pure_ (i := 3) (N := some 8) (v := ?_) (a' := ?_) #[true, true, false, true, false, false, false] rfl rfl (by kernel_rfl) (fun _ _ _ h => h) (Or.inl ⟨by rfl, ?_⟩) ?_ ?_
  rotate_left
  · intro w'
    go_simp
    with_reducible rfl
  rotate_left
  · simp only [Act.put, List.setIfInBounds_toArray, List.set_cons_zero, List.set_cons_succ, i64_w, i32_w]
    rfl
  refine pure_ (i := 4) (N := some 9) (v := ?_) (a' := ?_) #[true, true, false, true, true, false, false] rfl rfl (by kernel_rfl) (fun _ _ _ h => h) (Or.inl ⟨by rfl, ?_⟩) ?_ ?_
  rotate_left
  · intro w'
    go_simp
    with_reducible rfl
  rotate_left
  · simp only [Act.put, List.setIfInBounds_toArray, List.set_cons_zero, List.set_cons_succ, i64_w, i32_w]
    rfl
  refine take_ (i := 2) (N := some 103) (v := ?_) (a' := ?_) #[true, true, true, true, true, false, false] rfl rfl (by kernel_rfl) (fun _ _ _ h => h) (Or.inl ⟨by rfl, ?_⟩) hHeld ?_ ?_
  rotate_left
  · rintro w' ⟨s0, s1⟩
    go_simp
    with_reducible rfl
  rotate_left
  · simp only [Act.put, List.setIfInBounds_toArray, List.set_cons_zero, List.set_cons_succ, i64_w, i32_w]
    rfl
  refine last_ (i := 5) (N := none) #[true, true, true, true, true, true, false] rfl rfl (by kernel_rfl) (by decide) (fun K hK => ?_)
  refine skip_ (w1 := ?_) (by rfl) rfl ?_ ?_
  rotate_left
  · go_simp
    rfl
  refine hK.out _ _ ?_
  clear hK K
  refine pure_ (i := 6) (N := some 11) (v := ?_) (a' := ?_) #[true, true, true, true, true, true, true] rfl rfl (by kernel_rfl) (fun _ _ _ h => h) (Or.inl ⟨by rfl, ?_⟩) ?_ ?_
  rotate_left
  · intro w'
    go_simp
    with_reducible rfl
  rotate_left
  · simp only [Act.put, List.setIfInBounds_toArray, List.set_cons_zero, List.set_cons_succ, i64_w, i32_w]
    rfl
  refine done_ (by kernel_rfl) ?_
  generalize hW : World.drew _ = W5
  have KF : W5.heap[t]? = some (.cells #[.int .i64 x0, .int .i64 x1] 24 (0, 0)) := by
    rw [← hW]
    exact KT.set2 x0 x1
  have BF : Below t w W5 := by
    rw [← hW]
    exact ((BW.setCell (p := ⟨t, 0, none⟩) (Nat.le_refl _) _).setCell (p := ⟨t, 1, none⟩) (Nat.le_refl _) _).drew
  have d0 := (blk_cell KF 0).trans (show _ = some (.int .i64 x0) from rfl)
  have d1 := (blk_cell KF 1).trans (show _ = some (.int .i64 x1) from rfl)
  clear hW KF KT BW c0 c1 f0 f1 hk
  have E1 := Lib.hid BF
  clear BF
  go_wp2_with fail
  subst ht
  refine bodyPost_ret (v := .tuple #[.slice none 0 0, .bool true, .agg #[.int .i64 x0, .int .i64 x1], .bool true]) (by simp [results, Tryd.results7, go_sem, d0, d1]) rfl ⟨⟨_, _, _, _, rfl⟩, E1.out⟩
set_option maxHeartbeats 4000000 in
set_option maxRecDepth 100000 in
theorem run_yes_dd (sz : Int) (A : Option Addr) (n c : Nat) (d : Bool) (w : World) (hH : Hid (∀ W, Below w.heap.size w W → Calls Tryd.prog 15 #[.int .i64 sz, .slice A n c, .bool d] W fun e W' => ∃ g, e = .returned (.tuple #[.iface 80 (.pointer (some ⟨g, 0, none⟩)), .bool true]) ∧ Dg 102 g W' ∧ Below W.heap.size W W')) :
    Calls Tryd.prog 7 #[.int .i64 sz, .slice A n c, .bool d, .slice none 0 0] w fun e w' => (∃ v0 v1, ∃ x y : Int, e = .returned (.tuple #[v0, v1, .agg #[.int .i64 x, .int .i64 y], .bool true])) ∧ Below w.heap.size w w' := by
  go_enter Tryd.func7, Tryd.ntmps7
  go_wp2_with fail
  have B0 : Below w.heap.size w (w.alloc (.cells #[.int .i64 0, .int .i64 0] 24)) := (Below.refl _ _).alloc (Nat.le_refl _) _
  refine (hH.out _ B0).mono ?_
  rintro e w1 ⟨g, rfl, hd, hb⟩
  have KT : K2 w.heap.size w1 := K2.on ⟨_, _, (MapKept.heap_alloc w (.cells #[.int .i64 0, .int .i64 0] 24)).1⟩ hb
  have HB := Lib.hid (And.intro hd (And.intro KT (B0.trans (hb.mono B0.size))))
  clear KT hb B0 hd
  go_wp2_with fail
  refine wp_loop_once ?_
  have hm1 : ∀ (g : Nat) (w : World), (method 229 80 (.pointer (some ⟨g, 0, none⟩)) "Size").run Tryd.prog w = .ok (70, .pointer (some ⟨g, 0, none⟩)) w := fun _ _ => by kernel_rfl
  have hm2 : ∀ (g : Nat) (w : World), (method 229 80 (.pointer (some ⟨g, 0, none⟩)) "BlockSize").run Tryd.prog w = .ok (69, .pointer (some ⟨g, 0, none⟩)) w := fun _ _ => by kernel_rfl
  go_wp2_with fail
  refine (size_walk 102 g _ HB.out.1).mono ?_
  rintro e w2 ⟨⟨z1, rfl⟩, hb2⟩
  have HB2 := Lib.hid (And.intro (HB.out.2.1.on hb2) (HB.out.2.2.trans (hb2.mono HB.out.2.2.size)))
  clear hb2 HB
  go_wp2_with fail
  refine (block_walk _ _).mono ?_
  rintro e w3 ⟨⟨z2, rfl⟩, hb3⟩
  have HB3 := Lib.hid (And.intro (HB2.out.1.on hb3) (HB2.out.2.trans (hb3.mono HB2.out.2.size)))
  clear hb3 HB2 hm1 hm2
  obtain ⟨KT, BW⟩ := HB3.out
  obtain ⟨x0, x1, hk⟩ := id KT
  have c0 := (blk_cell hk 0).trans (show _ = some (.int .i64 x0) from rfl)
  have c1 := (blk_cell hk 1).trans (show _ = some (.int .i64 x1) from rfl)
  have f0 := blk_frozen hk 0
  have f1 := blk_frozen hk 1
  clear hk KT BW
  go_wp2_with fail
  obtain ⟨KT, BW⟩ := HB3.out
  have KT1 : K2 w.heap.size ((w3.setCell ⟨w.heap.size, 0, none⟩ (.int .i64 z1)).setCell ⟨w.heap.size, 1, none⟩ (.int .i64 z2)) := ⟨_, _, KT.set2 z1 z2⟩
  have BW1 : Below w.heap.size w ((w3.setCell ⟨w.heap.size, 0, none⟩ (.int .i64 z1)).setCell ⟨w.heap.size, 1, none⟩ (.int .i64 z2)) := (BW.setCell (p := ⟨w.heap.size, 0, none⟩) (Nat.le_refl _) _).setCell (p := ⟨w.heap.size, 1, none⟩) (Nat.le_refl _) _
  clear c0 c1 f0 f1 KT BW HB3 x0 x1
  generalize (w3.setCell ⟨w.heap.size, 0, none⟩ (.int .i64 z1)).setCell ⟨w.heap.size, 1, none⟩ (.int .i64 z2) = w4 at KT1 BW1 ⊢
  have KT := KT1
  have BW := BW1
  clear KT1 BW1
  generalize ht : w.heap.size = t at KT BW ⊢
  obtain ⟨x0, x1, hk⟩ := id KT
  have c0 := (blk_cell hk 0).trans (show _ = some (.int .i64 x0) from rfl)
  have c1 := (blk_cell hk 1).trans (show _ = some (.int .i64 x1) from rfl)
  have f0 := blk_frozen hk 0
  have f1 := blk_frozen hk 1
  refine start_ (n := 7) (S := fun w' => w'.cell? ⟨t, 0, none⟩ = some (.int .i64 x0) ∧ w'.cell? ⟨t, 1, none⟩ = some (.int .i64 x1)) (ds := [5]) #[false, false, false, false, false, false, false] (by kernel_rfl) rfl rfl ⟨c0, c1⟩ (fun hHeld => ?_)
  refine pure_ (i := 0) (N := some 101) (v := ?_) (a' := ?_) #[true, false, false, false, false, false, false] rfl rfl (by kernel_rfl) (fun _ _ _ h => h) (Or.inl ⟨by rfl, ?_⟩) ?_ ?_
  rotate_left
  · intro w'
    go_simp
    with_reducible rfl
  rotate_left
  · simp only [Act.put, List.setIfInBounds_toArray, List.set_cons_zero, List.set_cons_succ, i64_w, i32_w]
    rfl
  refine pure_ (i := 1) (N := some 102) (v := ?_) (a' := ?_) #[true, true, false, false, false, false, false] rfl rfl (by kernel_rfl) (fun _ _ _ h => h) (Or.inl ⟨by rfl, ?_⟩) ?_ ?_
  rotate_left
  · intro w'
    go_simp
    with_reducible rfl
  rotate_left
  · simp only [Act.put, List.setIfInBounds_toArray, List.set_cons_zero, List.set_cons_succ, i64_w, i32_w]
    rfl
  refine pure_ (i := 3) (N := some 8) (v := ?_) (a' := ?_) #[true, true, false, true, false, false, false] rfl rfl (by kernel_rfl) (fun _ _ _ h => h) (Or.inl ⟨by rfl, ?_⟩) ?_ ?_
  rotate_left
  · intro w'
    go_simp
    with_reducible rfl
  rotate_left
  · simp only [Act.put, List.setIfInBounds_toArray, List.set_cons_zero, List.set_cons_succ, i64_w, i32_w]
    rfl
  refine pure_ (i := 4) (N := some 9) (v := ?_) (a' := ?_) #[true, true, false, true, true, false, false] rfl rfl (by kernel_rfl) (fun _ _ _ h => h) (Or.inl ⟨by rfl, ?_⟩) ?_ ?_
  rotate_left
  · intro w'
    go_simp
    with_reducible rfl
  rotate_left
  · simp only [Act.put, List.setIfInBounds_toArray, List.set_cons_zero, List.set_cons_succ, i64_w, i32_w]
    rfl
  refine take_ (i := 2) (N := some 103) (v := ?_) (a' := ?_) #[true, true, true, true, true, false, false] rfl rfl (by kernel_rfl) (fun _ _ _ h => h) (Or.inl ⟨by rfl, ?_⟩) hHeld ?_ ?_
  rotate_left
  · rintro w' ⟨s0, s1⟩
    go_simp
    with_reducible rfl
  rotate_left
  · simp only [Act.put, List.setIfInBounds_toArray, List.set_cons_zero, List.set_cons_succ, i64_w, i32_w]
    rfl
  refine last_ (i := 5) (N := none) #[true, true, true, true, true, true, false] rfl rfl (by kernel_rfl) (by decide) (fun K hK => ?_)
  refine skip_ (w1 := ?_) (by rfl) rfl ?_ ?_
  rotate_left
  · go_simp
    rfl
  refine hK.out _ _ ?_
  clear hK K
  refine pure_ (i := 6) (N := some 11) (v := ?_) (a' := ?_) #[true, true, true, true, true, true, true] rfl rfl (by kernel_rfl) (fun _ _ _ h => h) (Or.inl ⟨by rfl, ?_⟩) ?_ ?_
  rotate_left
  · intro w'
    go_simp
    with_reducible rfl
  rotate_left
  · simp only [Act.put, List.setIfInBounds_toArray, List.set_cons_zero, List.set_cons_succ, i64_w, i32_w]
    rfl
  refine done_ (by kernel_rfl) ?_
  generalize hW : World.drew _ = W5
  have KF : W5.heap[t]? = some (.cells #[.int .i64 x0, .int .i64 x1] 24 (0, 0)) := by
    rw [← hW]
    exact KT.set2 x0 x1
  have BF : Below t w W5 := by
    rw [← hW]
    exact ((BW.setCell (p := ⟨t, 0, none⟩) (Nat.le_refl _) _).setCell (p := ⟨t, 1, none⟩) (Nat.le_refl _) _).drew
  have d0 := (blk_cell KF 0).trans (show _ = some (.int .i64 x0) from rfl)
  have d1 := (blk_cell KF 1).trans (show _ = some (.int .i64 x1) from rfl)
  clear hW KF KT BW c0 c1 f0 f1 hk
  have E1 := Lib.hid BF
  clear BF
  go_wp2_with fail
  subst ht
  refine bodyPost_ret (v := .tuple #[.slice none 0 0, .bool true, .agg #[.int .i64 x0, .int .i64 x1], .bool true]) (by simp [results, Tryd.results7, go_sem, d0, d1]) rfl ⟨⟨_, _, _, _, rfl⟩, E1.out⟩
end Go.Proofs.YtnehminojlocoaaDoor.PAll
