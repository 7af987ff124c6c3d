/- uint128's FromBytes and FromBytesBE, impl.WideFromBytes. Printed by gen/bywalk.py. -/
import Derived.Test.YtiifnofghicnaaaByWalk
namespace Go.Proofs.Ytiifnofghicnaaa.BAll
open Go.RowKit Go.Proofs.YtiifnofghicnaaaW.PrintWords Go.Proofs.YtiifnofghicnaaaW.PrintLast Go.Proofs.YtiifnofghicnaaaW.PrintMore
attribute [local go_sem] max2_int min2_int max_two min_two max_three min_three max_four min_four
set_option linter.unusedVariables false
set_option linter.unusedSimpArgs false
set_option maxHeartbeats 4000000 in
set_option maxRecDepth 100000 in
theorem new_walk (a b : Int) (w : World) : Calls Try.prog 133 #[.int .u64 a, .int .u64 b] w fun e w' => e = .returned (.agg #[.int .u64 a, .int .u64 b]) ∧ Below w.heap.size w w' := by
  go_enter Try.func133, Try.ntmps133
  go_wp2_with fail
  refine bodyPost_ret (v := .agg #[.int .u64 a, .int .u64 b]) (by simp [results, Try.results133, go_sem]) rfl ⟨rfl, ((Below.refl w.heap.size w).alloc (Nat.le_refl _) _)⟩
set_option maxHeartbeats 4000000 in
set_option maxRecDepth 100000 in
theorem wide_walk (a b : Int) (w : World) : Calls Try.prog 80 #[.agg #[.int .u64 a, .int .u64 b]] w fun e w' => e = .returned (.agg #[.int .u64 a, .int .u64 b]) ∧ Below w.heap.size w w' := by
  go_enter Try.func80, Try.ntmps80
  go_wp2_with fail
  refine bodyPost_ret (v := .agg #[.int .u64 a, .int .u64 b]) (by simp [results, Try.results80, go_sem]) rfl ⟨rfl, (((Below.refl w.heap.size w).alloc (Nat.le_refl _) _).alloc (by simp) _)⟩
set_option maxHeartbeats 4000000 in
set_option maxRecDepth 100000 in
theorem u_walk (a b : Int) (w : World) : Calls Try.prog 76 #[.agg #[.int .u64 a, .int .u64 b]] w fun e w' => e = .returned (.agg #[.int .u64 a, .int .u64 b]) ∧ Below w.heap.size w w' := by
  go_enter Try.func76, Try.ntmps76
  go_wp2_with fail
  refine bodyPost_ret (v := .agg #[.int .u64 a, .int .u64 b]) (by simp [results, Try.results76, go_sem]) rfl ⟨rfl, (((Below.refl w.heap.size w).alloc (Nat.le_refl _) _).alloc (by simp) _)⟩
set_option maxHeartbeats 4000000 in
set_option maxRecDepth 100000 in
theorem from_walk (g n c : Nat) (h16 : 16 ≤ n) (hnc : n ≤ c) (x : Nat → Int) (w : World) (hx : Xs g 16 x w) :
    Calls Try.prog 121 #[.slice (some ⟨g, 0, none⟩) n c] w fun e w' => e = .returned (.agg #[.int .u64 (or8 (x 0) (x 1) (x 2) (x 3) (x 4) (x 5) (x 6) (x 7)), .int .u64 (or8 (x 8) (x 9) (x 10) (x 11) (x 12) (x 13) (x 14) (x 15))]) ∧ Below w.heap.size w w' := by
  have hs1 := fun W : World => slice_from W g 8 n c (by omega) (by omega)
  have hs2 := fun W : World => slice_to W g 8 n c (by omega) (by omega)
  rw [show ((8 : Nat) : Int) = 8 from rfl] at hs1 hs2
  have XX := hx.on ((Below.refl _ _).alloc (Nat.le_refl _) (.cells #[.int .u64 0, .int .u64 0] 59))
  have KT := (MapKept.heap_alloc w (.cells #[.int .u64 0, .int .u64 0] 59)).1
  have BW := (Below.refl w.heap.size w).alloc (Nat.le_refl _) (.cells #[.int .u64 0, .int .u64 0] 59)
  have E0 := Lib.hid (And.intro XX (And.intro KT BW))
  clear XX KT BW hx
  go_enter Try.func121, Try.ntmps121
  go_wp2_with fail
  obtain ⟨XX, KT, BW⟩ := E0.out
  clear E0
  generalize ht : w.heap.size = t at KT BW ⊢
  generalize w.alloc (.cells #[.int .u64 0, .int .u64 0] 59) = W00 at XX KT BW ⊢
  refine start_ (n := 10) (S := fun w' => True) (ds := []) #[false, false, false, false, false, false, false, false, false, false] (by kernel_rfl) rfl rfl trivial (fun hHeld => ?_)
  replace XX : Xs g 16 x W00.drew := XX
  replace KT : W00.drew.heap[t]? = some (.cells #[.int .u64 0, .int .u64 0] 59 (0, 0)) := KT
  replace BW := BW.drew
  generalize W00.drew = W0 at XX KT BW ⊢
  refine pure_ (i := 1) (N := some 4) (v := ?_) (a' := ?_) #[false, true, false, false, false, false, false, false, false, false] rfl rfl (by kernel_rfl) (fun _ _ _ h => h) (Or.inl ⟨by rfl, ?_⟩) ?_ ?_
  rotate_left
  · intro w'
    go_simp
    with_reducible rfl
  rotate_left
  · simp only [Act.put, List.setIfInBounds_toArray, List.set_cons_zero, List.set_cons_succ, i64_w, i32_w]
    rfl
  refine pure_ (i := 2) (N := some 5) (v := ?_) (a' := ?_) #[false, true, true, false, false, false, false, false, false, false] rfl rfl (by kernel_rfl) (fun _ _ _ h => h) (Or.inl ⟨by rfl, ?_⟩) ?_ ?_
  rotate_left
  · intro w'
    go_simp
    with_reducible rfl
  rotate_left
  · simp only [Act.put, List.setIfInBounds_toArray, List.set_cons_zero, List.set_cons_succ, i64_w, i32_w]
    rfl
  refine pure_ (i := 5) (N := some 8) (v := ?_) (a' := ?_) #[false, true, true, false, false, true, false, false, false, false] rfl rfl (by kernel_rfl) (fun _ _ _ h => h) (Or.inl ⟨by rfl, ?_⟩) ?_ ?_
  rotate_left
  · intro w'
    go_simp
    with_reducible rfl
  rotate_left
  · simp only [Act.put, List.setIfInBounds_toArray, List.set_cons_zero, List.set_cons_succ, i64_w, i32_w]
    rfl
  refine pure_ (i := 6) (N := some 9) (v := ?_) (a' := ?_) #[false, true, true, false, false, true, true, false, false, false] rfl rfl (by kernel_rfl) (fun _ _ _ h => h) (Or.inl ⟨by rfl, ?_⟩) ?_ ?_
  rotate_left
  · intro w'
    go_simp
    with_reducible rfl
  rotate_left
  · simp only [Act.put, List.setIfInBounds_toArray, List.set_cons_zero, List.set_cons_succ, i64_w, i32_w]
    rfl
  refine take_ (i := 0) (N := some 3) (v := ?_) (a' := ?_) #[true, true, true, false, false, true, true, false, false, false] rfl rfl (by kernel_rfl) (fun _ _ _ h => h) (Or.inl ⟨by rfl, ?_⟩) hHeld ?_ ?_
  rotate_left
  · intro w' _
    go_simp
    with_reducible rfl
  rotate_left
  · simp only [Act.put, List.setIfInBounds_toArray, List.set_cons_zero, List.set_cons_succ, i64_w, i32_w]
    rfl
  refine take_ (i := 4) (N := some 7) (v := ?_) (a' := ?_) #[true, true, true, false, true, true, true, false, false, false] rfl rfl (by kernel_rfl) (fun _ _ _ h => h) (Or.inl ⟨by rfl, ?_⟩) hHeld ?_ ?_
  rotate_left
  · intro w' _
    go_simp
    with_reducible rfl
  rotate_left
  · simp only [Act.put, List.setIfInBounds_toArray, List.set_cons_zero, List.set_cons_succ, i64_w, i32_w]
    rfl
  refine one_ (i := 3) (N := some 6) #[true, true, true, true, true, true, true, false, false, false] rfl rfl (by kernel_rfl) (by decide) (fun K hK => ?_)
  refine goes_ Try.func135 (by kernel_rfl) rfl #[.agg #[], .slice (some ⟨g, 0, none⟩) 8 c] (by rfl) rfl rfl (by (try simp only [List.map_toArray, List.map_cons, List.map_nil]); first | done | rfl) ?_
  refine (leU g 0 8 c (by decide) x _ (fun W hW i hi => by rw [Nat.zero_add]; exact (XX.on hW) i (by omega))).mono ?_
  rintro e W9 ⟨rfl, hb⟩
  refine ⟨_, rfl, ?_⟩
  replace BW := BW.trans (hb.mono (Nat.le_of_lt (blk_lt KT)))
  replace XX := XX.on hb
  replace KT := by_on KT hb
  clear hb
  refine hK.out _ _ trivial (fun hHeld => ?_)
  clear hK K
  refine norm_ (a' := ?_) ?_ ?_
  rotate_left
  · show Act.put _ (some 6) _ = _
    simp only [Act.put, List.setIfInBounds_toArray, List.set_cons_zero, List.set_cons_succ, i64_w, i32_w]
    rfl
  refine one_ (i := 7) (N := some 10) #[true, true, true, true, true, true, true, true, false, false] rfl rfl (by kernel_rfl) (by decide) (fun K hK => ?_)
  refine goes_ Try.func135 (by kernel_rfl) rfl #[.agg #[], .slice (some ⟨g, 8, none⟩) (n - 8) (c - 8)] (by rfl) rfl rfl (by (try simp only [List.map_toArray, List.map_cons, List.map_nil]); first | done | rfl) ?_
  refine (leU g 8 (n - 8) (c - 8) (by omega) (fun i => x (8 + i)) _ (fun W hW i hi => (XX.on hW) (8 + i) (by omega))).mono ?_
  rintro e W9 ⟨rfl, hb⟩
  refine ⟨_, rfl, ?_⟩
  replace BW := BW.trans (hb.mono (Nat.le_of_lt (blk_lt KT)))
  replace XX := XX.on hb
  replace KT := by_on KT hb
  clear hb
  refine hK.out _ _ trivial (fun hHeld => ?_)
  clear hK K
  refine norm_ (a' := ?_) ?_ ?_
  rotate_left
  · show Act.put _ (some 10) _ = _
    simp only [Act.put, List.setIfInBounds_toArray, List.set_cons_zero, List.set_cons_succ, i64_w, i32_w]
    rfl
  refine one_ (i := 8) (N := some 11) #[true, true, true, true, true, true, true, true, true, false] rfl rfl (by kernel_rfl) (by decide) (fun K hK => ?_)
  refine goes_ Try.func133 (by kernel_rfl) rfl #[.int .u64 (or8 (x 0) (x 1) (x 2) (x 3) (x 4) (x 5) (x 6) (x 7)), .int .u64 (or8 (x 8) (x 9) (x 10) (x 11) (x 12) (x 13) (x 14) (x 15))] (by rfl) rfl rfl (by (try simp only [List.map_toArray, List.map_cons, List.map_nil]); first | done | rfl) ?_
  refine (new_walk (or8 (x 0) (x 1) (x 2) (x 3) (x 4) (x 5) (x 6) (x 7)) (or8 (x 8) (x 9) (x 10) (x 11) (x 12) (x 13) (x 14) (x 15)) _).mono ?_
  rintro e W9 ⟨rfl, hb⟩
  refine ⟨_, rfl, ?_⟩
  replace BW := BW.trans (hb.mono (Nat.le_of_lt (blk_lt KT)))
  replace XX := XX.on hb
  replace KT := by_on KT hb
  clear hb
  refine hK.out _ _ trivial (fun hHeld => ?_)
  clear hK K
  refine norm_ (a' := ?_) ?_ ?_
  rotate_left
  · show Act.put _ (some 11) _ = _
    simp only [Act.put, List.setIfInBounds_toArray, List.set_cons_zero, List.set_cons_succ, i64_w, i32_w]
    rfl
  refine one_ (i := 9) (N := none) #[true, true, true, true, true, true, true, true, true, true] rfl rfl (by kernel_rfl) (by decide) (fun K hK => ?_)
  have c0 := (blk_cell KT 0).trans (show _ = some (.int .u64 0) from rfl)
  have c1 := (blk_cell KT 1).trans (show _ = some (.int .u64 0) from rfl)
  have f0 := blk_frozen KT 0
  have f1 := blk_frozen KT 1
  refine skip_ (w1 := ?_) (by rfl) rfl ?_ ?_
  rotate_left
  · go_simp
    rfl
  clear c0 c1 f0 f1
  refine hK.out _ _ trivial (fun hHeld => ?_)
  clear hK K
  refine done_ (by kernel_rfl) ?_
  generalize hW : World.setCell (World.setCell _ _ _) _ _ = W5
  have KF : W5.heap[t]? = some (.cells #[.int .u64 (or8 (x 0) (x 1) (x 2) (x 3) (x 4) (x 5) (x 6) (x 7)), .int .u64 (or8 (x 8) (x 9) (x 10) (x 11) (x 12) (x 13) (x 14) (x 15))] 59 (0, 0)) := by
    rw [← hW]
    exact blk_put (blk_set KT 0 (.int .u64 (or8 (x 0) (x 1) (x 2) (x 3) (x 4) (x 5) (x 6) (x 7)))) 1 (.int .u64 (or8 (x 8) (x 9) (x 10) (x 11) (x 12) (x 13) (x 14) (x 15))) rfl
  have BF : Below t w W5 := by
    rw [← hW]
    exact (BW.setCell (p := ⟨t, 0, none⟩) (Nat.le_refl _) _).setCell (p := ⟨t, 1, none⟩) (Nat.le_refl _) _
  have d0 := (blk_cell KF 0).trans (show _ = some (.int .u64 (or8 (x 0) (x 1) (x 2) (x 3) (x 4) (x 5) (x 6) (x 7))) from rfl)
  have d1 := (blk_cell KF 1).trans (show _ = some (.int .u64 (or8 (x 8) (x 9) (x 10) (x 11) (x 12) (x 13) (x 14) (x 15))) from rfl)
  have E1 := Lib.hid BF
  clear hW KF KT BW XX BF hs1 hs2
  go_wp2_with fail
  subst ht
  refine bodyPost_ret (v := .agg #[.int .u64 (or8 (x 0) (x 1) (x 2) (x 3) (x 4) (x 5) (x 6) (x 7)), .int .u64 (or8 (x 8) (x 9) (x 10) (x 11) (x 12) (x 13) (x 14) (x 15))]) (by simp [results, Try.results121, go_sem, d0, d1]) rfl ⟨rfl, E1.out⟩
set_option maxHeartbeats 4000000 in
set_option maxRecDepth 100000 in
theorem fromBE_walk (g n c : Nat) (h16 : 16 ≤ n) (hnc : n ≤ c) (x : Nat → Int) (w : World) (hx : Xs g 16 x w) :
    Calls Try.prog 120 #[.slice (some ⟨g, 0, none⟩) n c] w fun e w' => e = .returned (.agg #[.int .u64 (or8 (x 15) (x 14) (x 13) (x 12) (x 11) (x 10) (x 9) (x 8)), .int .u64 (or8 (x 7) (x 6) (x 5) (x 4) (x 3) (x 2) (x 1) (x 0))]) ∧ Below w.heap.size w w' := by
  have hs1 := fun W : World => slice_from W g 8 n c (by omega) (by omega)
  have hs2 := fun W : World => slice_to W g 8 n c (by omega) (by omega)
  rw [show ((8 : Nat) : Int) = 8 from rfl] at hs1 hs2
  have XX := hx.on ((Below.refl _ _).alloc (Nat.le_refl _) (.cells #[.int .u64 0, .int .u64 0] 59))
  have KT := (MapKept.heap_alloc w (.cells #[.int .u64 0, .int .u64 0] 59)).1
  have BW := (Below.refl w.heap.size w).alloc (Nat.le_refl _) (.cells #[.int .u64 0, .int .u64 0] 59)
  have E0 := Lib.hid (And.intro XX (And.intro KT BW))
  clear XX KT BW hx
  go_enter Try.func120, Try.ntmps120
  go_wp2_with fail
  obtain ⟨XX, KT, BW⟩ := E0.out
  clear E0
  generalize ht : w.heap.size = t at KT BW ⊢
  generalize w.alloc (.cells #[.int .u64 0, .int .u64 0] 59) = W00 at XX KT BW ⊢
  refine start_ (n := 10) (S := fun w' => True) (ds := []) #[false, false, false, false, false, false, false, false, false, false] (by kernel_rfl) rfl rfl trivial (fun hHeld => ?_)
  replace XX : Xs g 16 x W00.drew := XX
  replace KT : W00.drew.heap[t]? = some (.cells #[.int .u64 0, .int .u64 0] 59 (0, 0)) := KT
  replace BW := BW.drew
  generalize W00.drew = W0 at XX KT BW ⊢
  refine pure_ (i := 1) (N := some 4) (v := ?_) (a' := ?_) #[false, true, false, false, false, false, false, false, false, false] rfl rfl (by kernel_rfl) (fun _ _ _ h => h) (Or.inl ⟨by rfl, ?_⟩) ?_ ?_
  rotate_left
  · intro w'
    go_simp
    with_reducible rfl
  rotate_left
  · simp only [Act.put, List.setIfInBounds_toArray, List.set_cons_zero, List.set_cons_succ, i64_w, i32_w]
    rfl
  refine pure_ (i := 2) (N := some 5) (v := ?_) (a' := ?_) #[false, true, true, false, false, false, false, false, false, false] rfl rfl (by kernel_rfl) (fun _ _ _ h => h) (Or.inl ⟨by rfl, ?_⟩) ?_ ?_
  rotate_left
  · intro w'
    go_simp
    with_reducible rfl
  rotate_left
  · simp only [Act.put, List.setIfInBounds_toArray, List.set_cons_zero, List.set_cons_succ, i64_w, i32_w]
    rfl
  refine pure_ (i := 5) (N := some 8) (v := ?_) (a' := ?_) #[false, true, true, false, false, true, false, false, false, false] rfl rfl (by kernel_rfl) (fun _ _ _ h => h) (Or.inl ⟨by rfl, ?_⟩) ?_ ?_
  rotate_left
  · intro w'
    go_simp
    with_reducible rfl
  rotate_left
  · simp only [Act.put, List.setIfInBounds_toArray, List.set_cons_zero, List.set_cons_succ, i64_w, i32_w]
    rfl
  refine pure_ (i := 6) (N := some 9) (v := ?_) (a' := ?_) #[false, true, true, false, false, true, true, false, false, false] rfl rfl (by kernel_rfl) (fun _ _ _ h => h) (Or.inl ⟨by rfl, ?_⟩) ?_ ?_
  rotate_left
  · intro w'
    go_simp
    with_reducible rfl
  rotate_left
  · simp only [Act.put, List.setIfInBounds_toArray, List.set_cons_zero, List.set_cons_succ, i64_w, i32_w]
    rfl
  refine take_ (i := 0) (N := some 3) (v := ?_) (a' := ?_) #[true, true, true, false, false, true, true, false, false, false] rfl rfl (by kernel_rfl) (fun _ _ _ h => h) (Or.inl ⟨by rfl, ?_⟩) hHeld ?_ ?_
  rotate_left
  · intro w' _
    go_simp
    with_reducible rfl
  rotate_left
  · simp only [Act.put, List.setIfInBounds_toArray, List.set_cons_zero, List.set_cons_succ, i64_w, i32_w]
    rfl
  refine take_ (i := 4) (N := some 7) (v := ?_) (a' := ?_) #[true, true, true, false, true, true, true, false, false, false] rfl rfl (by kernel_rfl) (fun _ _ _ h => h) (Or.inl ⟨by rfl, ?_⟩) hHeld ?_ ?_
  rotate_left
  · intro w' _
    go_simp
    with_reducible rfl
  rotate_left
  · simp only [Act.put, List.setIfInBounds_toArray, List.set_cons_zero, List.set_cons_succ, i64_w, i32_w]
    rfl
  refine one_ (i := 3) (N := some 6) #[true, true, true, true, true, true, true, false, false, false] rfl rfl (by kernel_rfl) (by decide) (fun K hK => ?_)
  refine goes_ Try.func134 (by kernel_rfl) rfl #[.agg #[], .slice (some ⟨g, 8, none⟩) (n - 8) (c - 8)] (by rfl) rfl rfl (by (try simp only [List.map_toArray, List.map_cons, List.map_nil]); first | done | rfl) ?_
  refine (beU g 8 (n - 8) (c - 8) (by omega) (fun i => x (8 + i)) _ (fun W hW i hi => (XX.on hW) (8 + i) (by omega))).mono ?_
  rintro e W9 ⟨rfl, hb⟩
  refine ⟨_, rfl, ?_⟩
  replace BW := BW.trans (hb.mono (Nat.le_of_lt (blk_lt KT)))
  replace XX := XX.on hb
  replace KT := by_on KT hb
  clear hb
  refine hK.out _ _ trivial (fun hHeld => ?_)
  clear hK K
  refine norm_ (a' := ?_) ?_ ?_
  rotate_left
  · show Act.put _ (some 6) _ = _
    simp only [Act.put, List.setIfInBounds_toArray, List.set_cons_zero, List.set_cons_succ, i64_w, i32_w]
    rfl
  refine one_ (i := 7) (N := some 10) #[true, true, true, true, true, true, true, true, false, false] rfl rfl (by kernel_rfl) (by decide) (fun K hK => ?_)
  refine goes_ Try.func134 (by kernel_rfl) rfl #[.agg #[], .slice (some ⟨g, 0, none⟩) 8 c] (by rfl) rfl rfl (by (try simp only [List.map_toArray, List.map_cons, List.map_nil]); first | done | rfl) ?_
  refine (beU g 0 8 c (by decide) x _ (fun W hW i hi => by rw [Nat.zero_add]; exact (XX.on hW) i (by omega))).mono ?_
  rintro e W9 ⟨rfl, hb⟩
  refine ⟨_, rfl, ?_⟩
  replace BW := BW.trans (hb.mono (Nat.le_of_lt (blk_lt KT)))
  replace XX := XX.on hb
  replace KT := by_on KT hb
  clear hb
  refine hK.out _ _ trivial (fun hHeld => ?_)
  clear hK K
  refine norm_ (a' := ?_) ?_ ?_
  rotate_left
  · show Act.put _ (some 10) _ = _
    simp only [Act.put, List.setIfInBounds_toArray, List.set_cons_zero, List.set_cons_succ, i64_w, i32_w]
    rfl
  refine one_ (i := 8) (N := some 11) #[true, true, true, true, true, true, true, true, true, false] rfl rfl (by kernel_rfl) (by decide) (fun K hK => ?_)
  refine goes_ Try.func133 (by kernel_rfl) rfl #[.int .u64 (or8 (x 15) (x 14) (x 13) (x 12) (x 11) (x 10) (x 9) (x 8)), .int .u64 (or8 (x 7) (x 6) (x 5) (x 4) (x 3) (x 2) (x 1) (x 0))] (by rfl) rfl rfl (by (try simp only [List.map_toArray, List.map_cons, List.map_nil]); first | done | rfl) ?_
  refine (new_walk (or8 (x 15) (x 14) (x 13) (x 12) (x 11) (x 10) (x 9) (x 8)) (or8 (x 7) (x 6) (x 5) (x 4) (x 3) (x 2) (x 1) (x 0)) _).mono ?_
  rintro e W9 ⟨rfl, hb⟩
  refine ⟨_, rfl, ?_⟩
  replace BW := BW.trans (hb.mono (Nat.le_of_lt (blk_lt KT)))
  replace XX := XX.on hb
  replace KT := by_on KT hb
  clear hb
  refine hK.out _ _ trivial (fun hHeld => ?_)
  clear hK K
  refine norm_ (a' := ?_) ?_ ?_
  rotate_left
  · show Act.put _ (some 11) _ = _
    simp only [Act.put, List.setIfInBounds_toArray, List.set_cons_zero, List.set_cons_succ, i64_w, i32_w]
    rfl
  refine one_ (i := 9) (N := none) #[true, true, true, true, true, true, true, true, true, true] rfl rfl (by kernel_rfl) (by decide) (fun K hK => ?_)
  have c0 := (blk_cell KT 0).trans (show _ = some (.int .u64 0) from rfl)
  have c1 := (blk_cell KT 1).trans (show _ = some (.int .u64 0) from rfl)
  have f0 := blk_frozen KT 0
  have f1 := blk_frozen KT 1
  refine skip_ (w1 := ?_) (by rfl) rfl ?_ ?_
  rotate_left
  · go_simp
    rfl
  clear c0 c1 f0 f1
  refine hK.out _ _ trivial (fun hHeld => ?_)
  clear hK K
  refine done_ (by kernel_rfl) ?_
  generalize hW : World.setCell (World.setCell _ _ _) _ _ = W5
  have KF : W5.heap[t]? = some (.cells #[.int .u64 (or8 (x 15) (x 14) (x 13) (x 12) (x 11) (x 10) (x 9) (x 8)), .int .u64 (or8 (x 7) (x 6) (x 5) (x 4) (x 3) (x 2) (x 1) (x 0))] 59 (0, 0)) := by
    rw [← hW]
    exact blk_put (blk_set KT 0 (.int .u64 (or8 (x 15) (x 14) (x 13) (x 12) (x 11) (x 10) (x 9) (x 8)))) 1 (.int .u64 (or8 (x 7) (x 6) (x 5) (x 4) (x 3) (x 2) (x 1) (x 0))) rfl
  have BF : Below t w W5 := by
    rw [← hW]
    exact (BW.setCell (p := ⟨t, 0, none⟩) (Nat.le_refl _) _).setCell (p := ⟨t, 1, none⟩) (Nat.le_refl _) _
  have d0 := (blk_cell KF 0).trans (show _ = some (.int .u64 (or8 (x 15) (x 14) (x 13) (x 12) (x 11) (x 10) (x 9) (x 8))) from rfl)
  have d1 := (blk_cell KF 1).trans (show _ = some (.int .u64 (or8 (x 7) (x 6) (x 5) (x 4) (x 3) (x 2) (x 1) (x 0))) from rfl)
  have E1 := Lib.hid BF
  clear hW KF KT BW XX BF hs1 hs2
  go_wp2_with fail
  subst ht
  refine bodyPost_ret (v := .agg #[.int .u64 (or8 (x 15) (x 14) (x 13) (x 12) (x 11) (x 10) (x 9) (x 8)), .int .u64 (or8 (x 7) (x 6) (x 5) (x 4) (x 3) (x 2) (x 1) (x 0))]) (by simp [results, Try.results120, go_sem, d0, d1]) rfl ⟨rfl, E1.out⟩
end Go.Proofs.Ytiifnofghicnaaa.BAll
