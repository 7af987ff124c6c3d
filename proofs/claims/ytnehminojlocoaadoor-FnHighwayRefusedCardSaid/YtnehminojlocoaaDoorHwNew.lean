/- HighwayHash: a digest is made. Printed by gen/hwnew.py. -/
import Derived.Test.YtnehminojlocoaaDoorHwInit
import Derived.Test.YtnehminojlocoaaDoorRows
import Derived.LaidLaws
import Derived.MakeChecks
import Derived.LaidHandle
namespace Go.Proofs.YtnehminojlocoaaDoor.PAll
open Go.RowKit Go.Proofs.YtnehminojlocoaaDoorW.PrintWords Go.Proofs.YtnehminojlocoaaDoorW.PrintLast Go.Proofs.YtnehminojlocoaaDoorW.PrintMore
set_option linter.unusedVariables false
set_option linter.unusedSimpArgs false
/-- The package's variable for a bad key holds an error. -/
def GlobK (w : World) : Prop := ∃ pv, w.cell? ⟨0, 0, none⟩ = some (.iface 109 pv)
theorem GlobK.on {w W : World} (h : GlobK w) (hb : Below w.heap.size w W) : GlobK W := by
  obtain ⟨pv, h⟩ := h
  exact ⟨pv, (hb.cell (World.block_lt_of_cell? w _ h)).trans h⟩
set_option maxHeartbeats 4000000 in
set_option maxRecDepth 100000 in
theorem initialize_walk (T g : Nat) (w : World) (hd : Dg T g w) :
    Calls Tryd.prog 39 #[.pointer (some ⟨g, 0, none⟩), .slice (some ⟨g, 16, none⟩) 32 32] w fun e w' => e = .returned (.tuple #[]) ∧ Dg T g w' ∧ Below g w w' := by
  go_enter Tryd.func39, Tryd.ntmps39
  go_wp2_with fail
  refine (init_walk T g _ hd).mono ?_
  rintro e w1 ⟨rfl, DD, BW⟩
  have E1 := Lib.hid (And.intro DD BW)
  clear DD BW hd
  go_wp2_with fail
  refine bodyPost_end (results_none rfl _ _ _) rfl ?_
  exact ⟨rfl, E1.out⟩
set_option maxHeartbeats 4000000 in
set_option maxRecDepth 100000 in
theorem reset_walk (T g : Nat) (w : World) (hd : Dg T g w) :
    Calls Tryd.prog 44 #[.pointer (some ⟨g, 0, none⟩)] w fun e w' => e = .returned (.tuple #[]) ∧ Dg T g w' ∧ Below g w w' := by
  go_enter Tryd.func44, Tryd.ntmps44
  go_wp2_with fail
  refine start_ (n := 8) (S := fun w' => True) (ds := []) #[false, false, false, false, false, false, false, false] (by kernel_rfl) rfl rfl trivial (fun hHeld => ?_)
  have DD : Dg T g w.drew := hd.drew
  refine pure_ (i := 0) (N := some 2) (v := ?_) (a' := ?_) #[true, false, false, false, false, false, false, false] rfl rfl (by kernel_rfl) (fun _ _ _ h => h) (Or.inl ⟨by rfl, ?_⟩) ?_ ?_
  rotate_left
  · intro w'
    go_simp
    with_reducible rfl
  rotate_left
  · simp only [Act.put, List.setIfInBounds_toArray, List.set_cons_zero, List.set_cons_succ, i64_w, i32_w]
    rfl
  refine pure_ (i := 1) (N := some 3) (v := ?_) (a' := ?_) #[true, true, false, false, false, false, false, false] rfl rfl (by kernel_rfl) (fun _ _ _ h => h) (Or.inl ⟨by rfl, ?_⟩) ?_ ?_
  rotate_left
  · intro w'
    go_simp
    with_reducible rfl
  rotate_left
  · simp only [Act.put, List.setIfInBounds_toArray, List.set_cons_zero, List.set_cons_succ, i64_w, i32_w]
    rfl
  refine pure_ (i := 2) (N := some 4) (v := ?_) (a' := ?_) #[true, true, true, false, false, false, false, false] rfl rfl (by kernel_rfl) (fun _ _ _ h => h) (Or.inl ⟨by rfl, ?_⟩) ?_ ?_
  rotate_left
  · intro w'
    go_simp
    with_reducible rfl
  rotate_left
  · simp only [Act.put, List.setIfInBounds_toArray, List.set_cons_zero, List.set_cons_succ, i64_w, i32_w]
    rfl
  refine pure_ (i := 3) (N := some 5) (v := ?_) (a' := ?_) #[true, true, true, true, false, false, false, false] rfl rfl (by kernel_rfl) (fun _ _ _ h => h) (Or.inl ⟨by rfl, ?_⟩) ?_ ?_
  rotate_left
  · intro w'
    go_simp
    with_reducible rfl
  rotate_left
  · simp only [Act.put, List.setIfInBounds_toArray, List.set_cons_zero, List.set_cons_succ, i64_w, i32_w]
    rfl
  refine pure_ (i := 4) (N := some 6) (v := ?_) (a' := ?_) #[true, true, true, true, true, false, false, false] rfl rfl (by kernel_rfl) (fun _ _ _ h => h) (Or.inl ⟨by rfl, ?_⟩) ?_ ?_
  rotate_left
  · intro w'
    go_simp
    with_reducible rfl
  rotate_left
  · simp only [Act.put, List.setIfInBounds_toArray, List.set_cons_zero, List.set_cons_succ, i64_w, i32_w]
    rfl
  refine pure_ (i := 5) (N := some 7) (v := ?_) (a' := ?_) #[true, true, true, true, true, true, false, false] rfl rfl (by kernel_rfl) (fun _ _ _ h => h) (Or.inl ⟨by rfl, ?_⟩) ?_ ?_
  rotate_left
  · intro w'
    go_simp
    with_reducible rfl
  rotate_left
  · simp only [Act.put, List.setIfInBounds_toArray, List.set_cons_zero, List.set_cons_succ, i64_w, i32_w]
    rfl
  refine pure_ (i := 6) (N := some 8) (v := ?_) (a' := ?_) #[true, true, true, true, true, true, true, false] rfl rfl (by kernel_rfl) (fun _ _ _ h => h) (Or.inl ⟨by rfl, ?_⟩) ?_ ?_
  rotate_left
  · intro w'
    go_simp
    with_reducible rfl
  rotate_left
  · simp only [Act.put, List.setIfInBounds_toArray, List.set_cons_zero, List.set_cons_succ, i64_w, i32_w]
    rfl
  refine one_ (i := 7) (N := some 9) #[true, true, true, true, true, true, true, true] rfl rfl (by kernel_rfl) (by decide) (fun K hK => ?_)
  refine goes_ Tryd.func39 (by kernel_rfl) rfl #[.pointer (some ⟨g, 0, none⟩), .slice (some ⟨g, 16, none⟩) 32 32] (by rfl) rfl rfl (by (try simp only [List.map_toArray, List.map_cons, List.map_nil]); first | done | rfl) ?_
  refine (initialize_walk T g _ DD).mono ?_
  rintro e W9 ⟨rfl, DD1, BW1⟩
  refine ⟨_, rfl, ?_⟩
  refine hK.out _ _ trivial (fun hHeld => ?_)
  clear hK K
  refine norm_ (a' := ?_) ?_ ?_
  rotate_left
  · show Act.put _ (some 9) _ = _
    simp only [Act.put, List.setIfInBounds_toArray, List.set_cons_zero, List.set_cons_succ, i64_w, i32_w]
    rfl
  refine done_ (by kernel_rfl) ?_
  obtain ⟨⟨x0, c0⟩, f0⟩ := DD1.slot 80 (by decide)
  have E1 := Lib.hid (And.intro DD1 BW1)
  clear DD1 BW1 DD
  go_wp2_with fail
  refine bodyPost_end (results_none rfl _ _ _) rfl ?_
  exact ⟨rfl, E1.out.1.set 80 (Or.inr rfl) _, (((Below.refl g w).drew).trans E1.out.2).setCell (p := ⟨g, 80, none⟩) (Nat.le_refl _) _⟩
theorem row82_zero (cs : Array Value) (h : cs.toList = List.replicate 16 (.int .u64 0) ++ List.replicate 64 (.int .u8 0) ++ [.int .i64 0, .int .i64 0]) : Row82 cs := by
  have hg : ∀ i, cs[i]? = (List.replicate 16 (Value.int .u64 0) ++ List.replicate 64 (.int .u8 0) ++ [.int .i64 0, .int .i64 0])[i]? := fun i => by rw [← h, Array.getElem?_toList]
  refine ⟨by rw [← Array.length_toList, h]; rfl, fun i h16 h48 => ?_, 0, (hg 81).trans rfl⟩
  rw [hg, List.append_assoc, List.getElem?_append_right (by simp; omega), List.getElem?_append_left (by simp; omega), List.getElem?_replicate, if_pos (by simp; omega)]
theorem row82_z64 : Row82 Tryd.zeroCells104 := row82_zero _ (by kernel_rfl)
theorem row82_z : Row82 Tryd.zeroCells102 := row82_zero _ (by kernel_rfl)
/-- copy of a key of noughts. -/
theorem run_copy32 {T g n c : Nat} {p : Addr} {W : World} (hd : Dg T g W) (hk : ∀ i, i < 32 → W.cell? (p.add i) = some (.int .u8 0)) (ty : TypeId) :
    ∃ W', (Builtin.copy_ #[22, 22] ty #[.slice (some ⟨g, 16, none⟩) 32 32, .slice (some p) 32 c]).run Tryd.prog W = .ok (goInt 32) W' ∧ Dg T g W' ∧ (∀ B w0, B ≤ g → Below B w0 W → Below B w0 W') := by
  obtain ⟨cs, h1, h2⟩ := hd
  refine ⟨_, run_copy_row Tryd.prog W 22 22 ty 5 g 16 32 32 p 32 c cs T (List.replicate 32 (.int .u8 0)) Tryd.underlying22 (by kernel_rfl) h1 rfl ?_ ?_ ?_, ⟨_, setRow_heap W g cs _ T (0, 0) h1, row82_splice h2 16 _ (Or.inr ⟨rfl, rfl⟩)⟩, fun B w0 hB h => below_setRow h hB _⟩
  · intro j v hj
    rw [List.getElem?_replicate] at hj
    split at hj
    · rw [hk j (by assumption)]
      exact hj
    · exact absurd hj (by simp)
  · show 16 + (List.replicate 32 (Value.int .u8 0)).length ≤ cs.size
    rw [h2.1, List.length_replicate]
    omega
  · intro v hv
    obtain rfl := List.eq_of_mem_replicate hv
    rfl
set_option maxHeartbeats 4000000 in
set_option maxRecDepth 100000 in
theorem dig64_no (A : Option Addr) (n c : Nat) (hn : n ≠ 32) (w : World) (hg : GlobK w) :
    Calls Tryd.prog 30 #[.slice A n c] w fun e w' => (∃ pv, e = .returned (.tuple #[.pointer none, .iface 109 pv])) ∧ Below w.heap.size w w' := by
  obtain ⟨pv, hpv⟩ := hg
  have hne : ((n : Int) == 32) = false := by rw [beq_eq_false_iff_ne]; omega
  go_enter Tryd.func30, Tryd.ntmps30
  go_wp2_with fail
  refine start_ (n := 3) (S := fun w' => w'.cell? ⟨0, 0, none⟩ = some (.iface 109 pv)) (ds := []) #[false, false, false] (by kernel_rfl) rfl rfl (hpv) (fun hHeld => ?_)
  refine pure_ (i := 1) (N := some 2) (v := ?_) (a' := ?_) #[false, true, false] rfl rfl (by kernel_rfl) (fun _ _ _ h => h) (Or.inl ⟨by rfl, ?_⟩) ?_ ?_
  rotate_left
  · intro w'
    go_simp
    with_reducible rfl
  rotate_left
  · simp only [Act.put, List.setIfInBounds_toArray, List.set_cons_zero, List.set_cons_succ, i64_w, i32_w]
    rfl
  refine take_ (i := 0) (N := some 8) (v := ?_) (a' := ?_) #[true, true, false] rfl rfl (by kernel_rfl) (fun _ _ _ h => h) (Or.inl ⟨by rfl, ?_⟩) hHeld ?_ ?_
  rotate_left
  · intro w' s0
    go_simp
    with_reducible rfl
  rotate_left
  · simp only [Act.put, List.setIfInBounds_toArray, List.set_cons_zero, List.set_cons_succ, i64_w, i32_w]
    rfl
  refine pure_ (i := 2) (N := some 3) (v := ?_) (a' := ?_) #[true, true, true] rfl rfl (by kernel_rfl) (fun _ _ _ h => h) (Or.inl ⟨by rfl, ?_⟩) ?_ ?_
  rotate_left
  · intro w'
    go_simp
    with_reducible rfl
  rotate_left
  · simp only [Act.put, List.setIfInBounds_toArray, List.set_cons_zero, List.set_cons_succ, i64_w, i32_w]
    rfl
  refine done_ (by kernel_rfl) ?_
  go_wp2_with fail
  go_ret2
  exact ⟨⟨_, rfl⟩, (Below.refl _ _).drew⟩
set_option maxHeartbeats 4000000 in
set_option maxRecDepth 100000 in
theorem dig64_yes (p : Addr) (c : Nat) (w : World) (hk : ∀ W, Below w.heap.size w W → ∀ i, i < 32 → W.cell? (p.add i) = some (.int .u8 0)) :
    Calls Tryd.prog 30 #[.slice (some p) 32 c] w fun e w' => ∃ g, e = .returned (.tuple #[.pointer (some ⟨g, 0, none⟩), .nilIface]) ∧ Dg 104 g w' ∧ Below w.heap.size w w' := by
  have HK := Lib.hid hk
  clear hk
  go_enter Tryd.func30, Tryd.ntmps30
  have DD : Dg 104 w.heap.size (w.alloc (.cells (Tryd.zeroCells104.setIfInBounds 81 (.int .i64 8)) 104)) := ⟨_, (MapKept.heap_alloc w _).1, row82_size row82_z64 _⟩
  have BW : Below w.heap.size w (w.alloc (.cells (Tryd.zeroCells104.setIfInBounds 81 (.int .i64 8)) 104)) := (Below.refl _ _).alloc (Nat.le_refl _) _
  obtain ⟨W', hcp, DD1, hB1⟩ := run_copy32 (n := 32) (c := c) DD (HK.out _ BW) 3
  have E1 := Lib.hid (And.intro DD1 (hB1 _ _ (Nat.le_refl _) BW))
  clear DD DD1 hB1 BW
  go_wp2_with fail
  refine (reset_walk _ _ _ E1.out.1).mono ?_
  rintro e w2 ⟨rfl, DD2, BW2⟩
  have E2 := Lib.hid (And.intro DD2 (E1.out.2.trans BW2))
  clear DD2 BW2 E1 hcp
  go_wp2_with fail
  go_ret2
  exact ⟨_, rfl, E2.out⟩
set_option maxHeartbeats 4000000 in
set_option maxRecDepth 100000 in
theorem dig128_no (A : Option Addr) (n c : Nat) (hn : n ≠ 32) (w : World) (hg : GlobK w) :
    Calls Tryd.prog 32 #[.slice A n c] w fun e w' => (∃ pv, e = .returned (.tuple #[.pointer none, .iface 109 pv])) ∧ Below w.heap.size w w' := by
  obtain ⟨pv, hpv⟩ := hg
  have hne : ((n : Int) == 32) = false := by rw [beq_eq_false_iff_ne]; omega
  go_enter Tryd.func32, Tryd.ntmps32
  go_wp2_with fail
  refine start_ (n := 3) (S := fun w' => w'.cell? ⟨0, 0, none⟩ = some (.iface 109 pv)) (ds := []) #[false, false, false] (by kernel_rfl) rfl rfl (hpv) (fun hHeld => ?_)
  refine pure_ (i := 1) (N := some 2) (v := ?_) (a' := ?_) #[false, true, false] rfl rfl (by kernel_rfl) (fun _ _ _ h => h) (Or.inl ⟨by rfl, ?_⟩) ?_ ?_
  rotate_left
  · intro w'
    go_simp
    with_reducible rfl
  rotate_left
  · simp only [Act.put, List.setIfInBounds_toArray, List.set_cons_zero, List.set_cons_succ, i64_w, i32_w]
    rfl
  refine take_ (i := 0) (N := some 8) (v := ?_) (a' := ?_) #[true, true, false] rfl rfl (by kernel_rfl) (fun _ _ _ h => h) (Or.inl ⟨by rfl, ?_⟩) hHeld ?_ ?_
  rotate_left
  · intro w' s0
    go_simp
    with_reducible rfl
  rotate_left
  · simp only [Act.put, List.setIfInBounds_toArray, List.set_cons_zero, List.set_cons_succ, i64_w, i32_w]
    rfl
  refine pure_ (i := 2) (N := some 3) (v := ?_) (a' := ?_) #[true, true, true] rfl rfl (by kernel_rfl) (fun _ _ _ h => h) (Or.inl ⟨by rfl, ?_⟩) ?_ ?_
  rotate_left
  · intro w'
    go_simp
    with_reducible rfl
  rotate_left
  · simp only [Act.put, List.setIfInBounds_toArray, List.set_cons_zero, List.set_cons_succ, i64_w, i32_w]
    rfl
  refine done_ (by kernel_rfl) ?_
  go_wp2_with fail
  go_ret2
  exact ⟨⟨_, rfl⟩, (Below.refl _ _).drew⟩
set_option maxHeartbeats 4000000 in
set_option maxRecDepth 100000 in
theorem dig128_yes (p : Addr) (c : Nat) (w : World) (hk : ∀ W, Below w.heap.size w W → ∀ i, i < 32 → W.cell? (p.add i) = some (.int .u8 0)) :
    Calls Tryd.prog 32 #[.slice (some p) 32 c] w fun e w' => ∃ g, e = .returned (.tuple #[.pointer (some ⟨g, 0, none⟩), .nilIface]) ∧ Dg 102 g w' ∧ Below w.heap.size w w' := by
  have HK := Lib.hid hk
  clear hk
  go_enter Tryd.func32, Tryd.ntmps32
  have DD : Dg 102 w.heap.size (w.alloc (.cells (Tryd.zeroCells102.setIfInBounds 81 (.int .i64 16)) 102)) := ⟨_, (MapKept.heap_alloc w _).1, row82_size row82_z _⟩
  have BW : Below w.heap.size w (w.alloc (.cells (Tryd.zeroCells102.setIfInBounds 81 (.int .i64 16)) 102)) := (Below.refl _ _).alloc (Nat.le_refl _) _
  obtain ⟨W', hcp, DD1, hB1⟩ := run_copy32 (n := 32) (c := c) DD (HK.out _ BW) 3
  have E1 := Lib.hid (And.intro DD1 (hB1 _ _ (Nat.le_refl _) BW))
  clear DD DD1 hB1 BW
  go_wp2_with fail
  refine (reset_walk _ _ _ E1.out.1).mono ?_
  rintro e w2 ⟨rfl, DD2, BW2⟩
  have E2 := Lib.hid (And.intro DD2 (E1.out.2.trans BW2))
  clear DD2 BW2 E1 hcp
  go_wp2_with fail
  go_ret2
  exact ⟨_, rfl, E2.out⟩
set_option maxHeartbeats 4000000 in
set_option maxRecDepth 100000 in
theorem dig_no (A : Option Addr) (n c : Nat) (hn : n ≠ 32) (w : World) (hg : GlobK w) :
    Calls Tryd.prog 34 #[.slice A n c] w fun e w' => (∃ pv, e = .returned (.tuple #[.pointer none, .iface 109 pv])) ∧ Below w.heap.size w w' := by
  obtain ⟨pv, hpv⟩ := hg
  have hne : ((n : Int) == 32) = false := by rw [beq_eq_false_iff_ne]; omega
  go_enter Tryd.func34, Tryd.ntmps34
  go_wp2_with fail
  refine start_ (n := 3) (S := fun w' => w'.cell? ⟨0, 0, none⟩ = some (.iface 109 pv)) (ds := []) #[false, false, false] (by kernel_rfl) rfl rfl (hpv) (fun hHeld => ?_)
  refine pure_ (i := 1) (N := some 2) (v := ?_) (a' := ?_) #[false, true, false] rfl rfl (by kernel_rfl) (fun _ _ _ h => h) (Or.inl ⟨by rfl, ?_⟩) ?_ ?_
  rotate_left
  · intro w'
    go_simp
    with_reducible rfl
  rotate_left
  · simp only [Act.put, List.setIfInBounds_toArray, List.set_cons_zero, List.set_cons_succ, i64_w, i32_w]
    rfl
  refine take_ (i := 0) (N := some 8) (v := ?_) (a' := ?_) #[true, true, false] rfl rfl (by kernel_rfl) (fun _ _ _ h => h) (Or.inl ⟨by rfl, ?_⟩) hHeld ?_ ?_
  rotate_left
  · intro w' s0
    go_simp
    with_reducible rfl
  rotate_left
  · simp only [Act.put, List.setIfInBounds_toArray, List.set_cons_zero, List.set_cons_succ, i64_w, i32_w]
    rfl
  refine pure_ (i := 2) (N := some 3) (v := ?_) (a' := ?_) #[true, true, true] rfl rfl (by kernel_rfl) (fun _ _ _ h => h) (Or.inl ⟨by rfl, ?_⟩) ?_ ?_
  rotate_left
  · intro w'
    go_simp
    with_reducible rfl
  rotate_left
  · simp only [Act.put, List.setIfInBounds_toArray, List.set_cons_zero, List.set_cons_succ, i64_w, i32_w]
    rfl
  refine done_ (by kernel_rfl) ?_
  go_wp2_with fail
  go_ret2
  exact ⟨⟨_, rfl⟩, (Below.refl _ _).drew⟩
set_option maxHeartbeats 4000000 in
set_option maxRecDepth 100000 in
theorem dig_yes (p : Addr) (c : Nat) (w : World) (hk : ∀ W, Below w.heap.size w W → ∀ i, i < 32 → W.cell? (p.add i) = some (.int .u8 0)) :
    Calls Tryd.prog 34 #[.slice (some p) 32 c] w fun e w' => ∃ g, e = .returned (.tuple #[.pointer (some ⟨g, 0, none⟩), .nilIface]) ∧ Dg 102 g w' ∧ Below w.heap.size w w' := by
  have HK := Lib.hid hk
  clear hk
  go_enter Tryd.func34, Tryd.ntmps34
  have DD : Dg 102 w.heap.size (w.alloc (.cells (Tryd.zeroCells102.setIfInBounds 81 (.int .i64 32)) 102)) := ⟨_, (MapKept.heap_alloc w _).1, row82_size row82_z _⟩
  have BW : Below w.heap.size w (w.alloc (.cells (Tryd.zeroCells102.setIfInBounds 81 (.int .i64 32)) 102)) := (Below.refl _ _).alloc (Nat.le_refl _) _
  obtain ⟨W', hcp, DD1, hB1⟩ := run_copy32 (n := 32) (c := c) DD (HK.out _ BW) 3
  have E1 := Lib.hid (And.intro DD1 (hB1 _ _ (Nat.le_refl _) BW))
  clear DD DD1 hB1 BW
  go_wp2_with fail
  refine (reset_walk _ _ _ E1.out.1).mono ?_
  rintro e w2 ⟨rfl, DD2, BW2⟩
  have E2 := Lib.hid (And.intro DD2 (E1.out.2.trans BW2))
  clear DD2 BW2 E1 hcp
  go_wp2_with fail
  go_ret2
  exact ⟨_, rfl, E2.out⟩
set_option maxHeartbeats 4000000 in
set_option maxRecDepth 100000 in
theorem new64_no (A : Option Addr) (n c : Nat) (hn : n ≠ 32) (w : World) (hg : GlobK w) :
    Calls Tryd.prog 31 #[.slice A n c] w fun e w' => (∃ pv, e = .returned (.tuple #[.iface 73 (.pointer none), .iface 109 pv])) ∧ Below w.heap.size w w' := by
  have HG := Lib.hid hg
  clear hg
  go_enter Tryd.func31, Tryd.ntmps31
  go_wp2_with fail
  refine (dig64_no A n c hn _ HG.out).mono ?_
  rintro e w1 ⟨⟨pv, rfl⟩, hb⟩
  have HB := Lib.hid hb
  clear hb HG
  go_wp2_with fail
  go_ret2
  exact ⟨⟨_, rfl⟩, HB.out⟩
set_option maxHeartbeats 4000000 in
set_option maxRecDepth 100000 in
theorem new64_yes (p : Addr) (c : Nat) (w : World) (hk : ∀ W, Below w.heap.size w W → ∀ i, i < 32 → W.cell? (p.add i) = some (.int .u8 0)) :
    Calls Tryd.prog 31 #[.slice (some p) 32 c] w fun e w' => ∃ g, e = .returned (.tuple #[.iface 73 (.pointer (some ⟨g, 0, none⟩)), .nilIface]) ∧ Dg 104 g w' ∧ Below w.heap.size w w' := by
  have HK := Lib.hid hk
  clear hk
  go_enter Tryd.func31, Tryd.ntmps31
  go_wp2_with fail
  refine (dig64_yes p c _ HK.out).mono ?_
  rintro e w1 ⟨g, rfl, hd, hb⟩
  have HB := Lib.hid (And.intro hd hb)
  clear hb HK hd
  go_wp2_with fail
  go_ret2
  exact ⟨_, rfl, HB.out⟩
set_option maxHeartbeats 4000000 in
set_option maxRecDepth 100000 in
theorem new128_no (A : Option Addr) (n c : Nat) (hn : n ≠ 32) (w : World) (hg : GlobK w) :
    Calls Tryd.prog 33 #[.slice A n c] w fun e w' => (∃ pv, e = .returned (.tuple #[.iface 80 (.pointer none), .iface 109 pv])) ∧ Below w.heap.size w w' := by
  have HG := Lib.hid hg
  clear hg
  go_enter Tryd.func33, Tryd.ntmps33
  go_wp2_with fail
  refine (dig128_no A n c hn _ HG.out).mono ?_
  rintro e w1 ⟨⟨pv, rfl⟩, hb⟩
  have HB := Lib.hid hb
  clear hb HG
  go_wp2_with fail
  go_ret2
  exact ⟨⟨_, rfl⟩, HB.out⟩
set_option maxHeartbeats 4000000 in
set_option maxRecDepth 100000 in
theorem new128_yes (p : Addr) (c : Nat) (w : World) (hk : ∀ W, Below w.heap.size w W → ∀ i, i < 32 → W.cell? (p.add i) = some (.int .u8 0)) :
    Calls Tryd.prog 33 #[.slice (some p) 32 c] w fun e w' => ∃ g, e = .returned (.tuple #[.iface 80 (.pointer (some ⟨g, 0, none⟩)), .nilIface]) ∧ Dg 102 g w' ∧ Below w.heap.size w w' := by
  have HK := Lib.hid hk
  clear hk
  go_enter Tryd.func33, Tryd.ntmps33
  go_wp2_with fail
  refine (dig128_yes p c _ HK.out).mono ?_
  rintro e w1 ⟨g, rfl, hd, hb⟩
  have HB := Lib.hid (And.intro hd hb)
  clear hb HK hd
  go_wp2_with fail
  go_ret2
  exact ⟨_, rfl, HB.out⟩
set_option maxHeartbeats 4000000 in
set_option maxRecDepth 100000 in
theorem new_no (A : Option Addr) (n c : Nat) (hn : n ≠ 32) (w : World) (hg : GlobK w) :
    Calls Tryd.prog 35 #[.slice A n c] w fun e w' => (∃ pv, e = .returned (.tuple #[.iface 80 (.pointer none), .iface 109 pv])) ∧ Below w.heap.size w w' := by
  have HG := Lib.hid hg
  clear hg
  go_enter Tryd.func35, Tryd.ntmps35
  go_wp2_with fail
  refine (dig_no A n c hn _ HG.out).mono ?_
  rintro e w1 ⟨⟨pv, rfl⟩, hb⟩
  have HB := Lib.hid hb
  clear hb HG
  go_wp2_with fail
  go_ret2
  exact ⟨⟨_, rfl⟩, HB.out⟩
set_option maxHeartbeats 4000000 in
set_option maxRecDepth 100000 in
theorem new_yes (p : Addr) (c : Nat) (w : World) (hk : ∀ W, Below w.heap.size w W → ∀ i, i < 32 → W.cell? (p.add i) = some (.int .u8 0)) :
    Calls Tryd.prog 35 #[.slice (some p) 32 c] w fun e w' => ∃ g, e = .returned (.tuple #[.iface 80 (.pointer (some ⟨g, 0, none⟩)), .nilIface]) ∧ Dg 102 g w' ∧ Below w.heap.size w w' := by
  have HK := Lib.hid hk
  clear hk
  go_enter Tryd.func35, Tryd.ntmps35
  go_wp2_with fail
  refine (dig_yes p c _ HK.out).mono ?_
  rintro e w1 ⟨g, rfl, hd, hb⟩
  have HB := Lib.hid (And.intro hd hb)
  clear hb HK hd
  go_wp2_with fail
  go_ret2
  exact ⟨_, rfl, HB.out⟩
end Go.Proofs.YtnehminojlocoaaDoor.PAll
