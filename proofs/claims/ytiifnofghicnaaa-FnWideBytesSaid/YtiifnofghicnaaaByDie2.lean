/- PutBytes and PutBytesBE. Printed by gen/bydie.py. -/
import Derived.Test.YtiifnofghicnaaaByDie
namespace Go.Proofs.Ytiifnofghicnaaa.BAll
open Go.RowKit Go.Proofs.YtiifnofghicnaaaW.PrintWords Go.Proofs.YtiifnofghicnaaaW.PrintLast Go.Proofs.YtiifnofghicnaaaW.PrintMore
set_option linter.unusedVariables false
set_option linter.unusedSimpArgs false
set_option maxHeartbeats 1000000 in
set_option maxRecDepth 100000 in
theorem pb_ok (g n c : Nat) (a b : Int) (h16 : 16 ≤ n) (hnc : n ≤ c) (cur : Array Value) (w : World) (hh : w.heap[g]? = some (.cells cur 5 (0, 0))) (hsz : cur.size = c) :
    Calls Try.prog 125 #[.agg #[.int .u64 a, .int .u64 b], .slice (some ⟨g, 0, none⟩) n c] w fun e w' => e = .returned (.tuple #[]) ∧ w'.heap[g]? = some (.cells (put8 (put8 cur 0 (a % 256) (a / 256 % 256) (a / 65536 % 256) (a / 16777216 % 256) (a / 4294967296 % 256) (a / 1099511627776 % 256) (a / 281474976710656 % 256) (a / 72057594037927936 % 256)) 8 (b % 256) (b / 256 % 256) (b / 65536 % 256) (b / 16777216 % 256) (b / 4294967296 % 256) (b / 1099511627776 % 256) (b / 281474976710656 % 256) (b / 72057594037927936 % 256)) 5 (0, 0)) ∧ Below g w w' := by
  have hs1 := fun W : World => slice_from W g 8 n c (by omega) (by omega)
  have hs2 := fun W : World => slice_to W g 8 n c (by omega) (by omega)
  rw [show ((8 : Nat) : Int) = 8 from rfl] at hs1 hs2
  have hl := blk_lt hh
  have ht : w.heap.size ≠ g := by omega
  have E0 := Lib.hid (And.intro (blk_alloc hh (.cells #[.int .u64 a, .int .u64 b] 59)) (And.intro (MapKept.heap_alloc w (.cells #[.int .u64 a, .int .u64 b] 59)).1 ((Below.refl g w).alloc (Nat.le_of_lt hl) (.cells #[.int .u64 a, .int .u64 b] 59))))
  clear hh
  go_enter Try.func125, Try.ntmps125
  go_wp2_with fail
  obtain ⟨hh, KT, BW⟩ := E0.out
  clear E0
  generalize hts : w.heap.size = t at ht KT ⊢
  generalize w.alloc (.cells #[.int .u64 a, .int .u64 b] 59) = V0 at hh KT BW ⊢
  have c0 := (blk_cell KT 0).trans (show _ = some (.int .u64 a) from rfl)
  refine start_ (n := 6) (S := fun w' => w'.cell? ⟨t, 0, none⟩ = some (.int .u64 a)) (ds := []) #[false, false, false, false, false, false] (by kernel_rfl) rfl rfl (c0) (fun hHeld => ?_)
  replace hh : V0.drew.heap[g]? = _ := hh
  replace KT : V0.drew.heap[t]? = some (.cells #[.int .u64 a, .int .u64 b] 59 (0, 0)) := KT
  replace BW := BW.drew
  clear c0
  generalize V0.drew = W0 at hh KT BW hHeld ⊢
  refine pure_ (i := 1) (N := some 5) (v := ?_) (a' := ?_) #[false, true, false, false, false, false] rfl rfl (by kernel_rfl) (fun _ _ _ h => h) (Or.inl ⟨by rfl, ?_⟩) ?_ ?_
  rotate_left
  · intro w'
    go_simp
    with_reducible rfl
  rotate_left
  · simp only [Act.put, List.setIfInBounds_toArray, List.set_cons_zero, List.set_cons_succ, i64_w, i32_w]
    rfl
  refine pure_ (i := 2) (N := some 6) (v := ?_) (a' := ?_) #[false, true, true, false, false, false] rfl rfl (by kernel_rfl) (fun _ _ _ h => h) (Or.inl ⟨by rfl, ?_⟩) ?_ ?_
  rotate_left
  · intro w'
    go_simp
    with_reducible rfl
  rotate_left
  · simp only [Act.put, List.setIfInBounds_toArray, List.set_cons_zero, List.set_cons_succ, i64_w, i32_w]
    rfl
  refine pure_ (i := 3) (N := some 7) (v := ?_) (a' := ?_) #[false, true, true, true, false, false] rfl rfl (by kernel_rfl) (fun _ _ _ h => h) (Or.inl ⟨by rfl, ?_⟩) ?_ ?_
  rotate_left
  · intro w'
    go_simp
    with_reducible rfl
  rotate_left
  · simp only [Act.put, List.setIfInBounds_toArray, List.set_cons_zero, List.set_cons_succ, i64_w, i32_w]
    rfl
  refine take_ (i := 0) (N := some 4) (v := ?_) (a' := ?_) #[true, true, true, true, false, false] rfl rfl (by kernel_rfl) (fun _ _ _ h => h) (Or.inl ⟨by rfl, ?_⟩) hHeld ?_ ?_
  rotate_left
  · intro w' s0
    go_simp
    with_reducible rfl
  rotate_left
  · simp only [Act.put, List.setIfInBounds_toArray, List.set_cons_zero, List.set_cons_succ, i64_w, i32_w]
    rfl
  refine take_ (i := 4) (N := some 8) (v := ?_) (a' := ?_) #[true, true, true, true, true, false] rfl rfl (by kernel_rfl) (fun _ _ _ h => h) (Or.inl ⟨by rfl, ?_⟩) hHeld ?_ ?_
  rotate_left
  · intro w' s0
    go_simp
    with_reducible rfl
  rotate_left
  · simp only [Act.put, List.setIfInBounds_toArray, List.set_cons_zero, List.set_cons_succ, i64_w, i32_w]
    rfl
  refine one_ (i := 5) (N := some 9) #[true, true, true, true, true, true] rfl rfl (by kernel_rfl) (by decide) (fun K hK => ?_)
  refine goes_ Try.func138 (by kernel_rfl) rfl #[.agg #[], .slice (some ⟨g, 0, none⟩) 8 c, .int .u64 a] (by rfl) rfl rfl (by (try simp only [List.map_toArray, List.map_cons, List.map_nil]); first | done | rfl) ?_
  refine (leP_ok g 0 8 c a (by decide) cur _ hh (by omega)).mono ?_
  rintro e W9 ⟨rfl, hh1, BW1, OW1⟩
  refine ⟨_, rfl, ?_⟩
  refine hK.out _ _ (((blk_cell ((OW1 t ht (blk_lt KT)).trans KT) 0).trans rfl)) (fun hHeld => ?_)
  clear hK K
  refine norm_ (a' := ?_) ?_ ?_
  rotate_left
  · show Act.put _ (some 9) _ = _
    simp only [Act.put, List.setIfInBounds_toArray, List.set_cons_zero, List.set_cons_succ, i64_w, i32_w]
    rfl
  refine done_ (by kernel_rfl) ?_
  replace KT := (OW1 t ht (blk_lt KT)).trans KT
  replace BW := BW.trans BW1
  have E1 := Lib.hid (And.intro hh1 (And.intro KT BW))
  clear hh1 BW1 OW1 hh KT BW
  go_wp2_with fail
  obtain ⟨hh, KT, BW⟩ := E1.out
  clear E1
  have c0 := (blk_cell KT 1).trans (show _ = some (.int .u64 b) from rfl)
  refine start_ (n := 6) (S := fun w' => w'.cell? ⟨t, 1, none⟩ = some (.int .u64 b)) (ds := []) #[false, false, false, false, false, false] (by kernel_rfl) rfl rfl (c0) (fun hHeld => ?_)
  replace hh : W9.drew.heap[g]? = _ := hh
  replace KT : W9.drew.heap[t]? = some (.cells #[.int .u64 a, .int .u64 b] 59 (0, 0)) := KT
  replace BW := BW.drew
  clear c0
  generalize W9.drew = W0 at hh KT BW hHeld ⊢
  refine pure_ (i := 1) (N := some 11) (v := ?_) (a' := ?_) #[false, true, false, false, false, false] rfl rfl (by kernel_rfl) (fun _ _ _ h => h) (Or.inl ⟨by rfl, ?_⟩) ?_ ?_
  rotate_left
  · intro w'
    go_simp
    with_reducible rfl
  rotate_left
  · simp only [Act.put, List.setIfInBounds_toArray, List.set_cons_zero, List.set_cons_succ, i64_w, i32_w]
    rfl
  refine pure_ (i := 2) (N := some 12) (v := ?_) (a' := ?_) #[false, true, true, false, false, false] rfl rfl (by kernel_rfl) (fun _ _ _ h => h) (Or.inl ⟨by rfl, ?_⟩) ?_ ?_
  rotate_left
  · intro w'
    go_simp
    with_reducible rfl
  rotate_left
  · simp only [Act.put, List.setIfInBounds_toArray, List.set_cons_zero, List.set_cons_succ, i64_w, i32_w]
    rfl
  refine pure_ (i := 3) (N := some 13) (v := ?_) (a' := ?_) #[false, true, true, true, false, false] rfl rfl (by kernel_rfl) (fun _ _ _ h => h) (Or.inl ⟨by rfl, ?_⟩) ?_ ?_
  rotate_left
  · intro w'
    go_simp
    with_reducible rfl
  rotate_left
  · simp only [Act.put, List.setIfInBounds_toArray, List.set_cons_zero, List.set_cons_succ, i64_w, i32_w]
    rfl
  refine take_ (i := 0) (N := some 10) (v := ?_) (a' := ?_) #[true, true, true, true, false, false] rfl rfl (by kernel_rfl) (fun _ _ _ h => h) (Or.inl ⟨by rfl, ?_⟩) hHeld ?_ ?_
  rotate_left
  · intro w' s0
    go_simp
    with_reducible rfl
  rotate_left
  · simp only [Act.put, List.setIfInBounds_toArray, List.set_cons_zero, List.set_cons_succ, i64_w, i32_w]
    rfl
  refine take_ (i := 4) (N := some 14) (v := ?_) (a' := ?_) #[true, true, true, true, true, false] rfl rfl (by kernel_rfl) (fun _ _ _ h => h) (Or.inl ⟨by rfl, ?_⟩) hHeld ?_ ?_
  rotate_left
  · intro w' s0
    go_simp
    with_reducible rfl
  rotate_left
  · simp only [Act.put, List.setIfInBounds_toArray, List.set_cons_zero, List.set_cons_succ, i64_w, i32_w]
    rfl
  refine one_ (i := 5) (N := some 15) #[true, true, true, true, true, true] rfl rfl (by kernel_rfl) (by decide) (fun K hK => ?_)
  refine goes_ Try.func138 (by kernel_rfl) rfl #[.agg #[], .slice (some ⟨g, 8, none⟩) (n - 8) (c - 8), .int .u64 b] (by rfl) rfl rfl (by (try simp only [List.map_toArray, List.map_cons, List.map_nil]); first | done | rfl) ?_
  refine (leP_ok g 8 (n - 8) (c - 8) b (by omega) (put8 cur 0 (a % 256) (a / 256 % 256) (a / 65536 % 256) (a / 16777216 % 256) (a / 4294967296 % 256) (a / 1099511627776 % 256) (a / 281474976710656 % 256) (a / 72057594037927936 % 256)) _ hh (by simp only [put8, Array.size_setIfInBounds]; omega)).mono ?_
  rintro e W9 ⟨rfl, hh1, BW1, OW1⟩
  refine ⟨_, rfl, ?_⟩
  refine hK.out _ _ (((blk_cell ((OW1 t ht (blk_lt KT)).trans KT) 1).trans rfl)) (fun hHeld => ?_)
  clear hK K
  refine norm_ (a' := ?_) ?_ ?_
  rotate_left
  · show Act.put _ (some 15) _ = _
    simp only [Act.put, List.setIfInBounds_toArray, List.set_cons_zero, List.set_cons_succ, i64_w, i32_w]
    rfl
  refine done_ (by kernel_rfl) ?_
  have E2 := Lib.hid (And.intro hh1 (BW.trans BW1))
  clear hh1 BW1 OW1 hh KT BW
  refine bodyPost_end (results_none rfl _ _ _) rfl ?_
  exact ⟨rfl, E2.out⟩
set_option maxHeartbeats 1000000 in
set_option maxRecDepth 100000 in
theorem pbe_ok (g n c : Nat) (a b : Int) (h16 : 16 ≤ n) (hnc : n ≤ c) (cur : Array Value) (w : World) (hh : w.heap[g]? = some (.cells cur 5 (0, 0))) (hsz : cur.size = c) :
    Calls Try.prog 124 #[.agg #[.int .u64 a, .int .u64 b], .slice (some ⟨g, 0, none⟩) n c] w fun e w' => e = .returned (.tuple #[]) ∧ w'.heap[g]? = some (.cells (put8 (put8 cur 0 (b / 72057594037927936 % 256) (b / 281474976710656 % 256) (b / 1099511627776 % 256) (b / 4294967296 % 256) (b / 16777216 % 256) (b / 65536 % 256) (b / 256 % 256) (b % 256)) 8 (a / 72057594037927936 % 256) (a / 281474976710656 % 256) (a / 1099511627776 % 256) (a / 4294967296 % 256) (a / 16777216 % 256) (a / 65536 % 256) (a / 256 % 256) (a % 256)) 5 (0, 0)) ∧ Below g w w' := by
  have hs1 := fun W : World => slice_from W g 8 n c (by omega) (by omega)
  have hs2 := fun W : World => slice_to W g 8 n c (by omega) (by omega)
  rw [show ((8 : Nat) : Int) = 8 from rfl] at hs1 hs2
  have hl := blk_lt hh
  have ht : w.heap.size ≠ g := by omega
  have E0 := Lib.hid (And.intro (blk_alloc hh (.cells #[.int .u64 a, .int .u64 b] 59)) (And.intro (MapKept.heap_alloc w (.cells #[.int .u64 a, .int .u64 b] 59)).1 ((Below.refl g w).alloc (Nat.le_of_lt hl) (.cells #[.int .u64 a, .int .u64 b] 59))))
  clear hh
  go_enter Try.func124, Try.ntmps124
  go_wp2_with fail
  obtain ⟨hh, KT, BW⟩ := E0.out
  clear E0
  generalize hts : w.heap.size = t at ht KT ⊢
  generalize w.alloc (.cells #[.int .u64 a, .int .u64 b] 59) = V0 at hh KT BW ⊢
  have c0 := (blk_cell KT 1).trans (show _ = some (.int .u64 b) from rfl)
  refine start_ (n := 6) (S := fun w' => w'.cell? ⟨t, 1, none⟩ = some (.int .u64 b)) (ds := []) #[false, false, false, false, false, false] (by kernel_rfl) rfl rfl (c0) (fun hHeld => ?_)
  replace hh : V0.drew.heap[g]? = _ := hh
  replace KT : V0.drew.heap[t]? = some (.cells #[.int .u64 a, .int .u64 b] 59 (0, 0)) := KT
  replace BW := BW.drew
  clear c0
  generalize V0.drew = W0 at hh KT BW hHeld ⊢
  refine pure_ (i := 1) (N := some 5) (v := ?_) (a' := ?_) #[false, true, false, false, false, false] rfl rfl (by kernel_rfl) (fun _ _ _ h => h) (Or.inl ⟨by rfl, ?_⟩) ?_ ?_
  rotate_left
  · intro w'
    go_simp
    with_reducible rfl
  rotate_left
  · simp only [Act.put, List.setIfInBounds_toArray, List.set_cons_zero, List.set_cons_succ, i64_w, i32_w]
    rfl
  refine pure_ (i := 2) (N := some 6) (v := ?_) (a' := ?_) #[false, true, true, false, false, false] rfl rfl (by kernel_rfl) (fun _ _ _ h => h) (Or.inl ⟨by rfl, ?_⟩) ?_ ?_
  rotate_left
  · intro w'
    go_simp
    with_reducible rfl
  rotate_left
  · simp only [Act.put, List.setIfInBounds_toArray, List.set_cons_zero, List.set_cons_succ, i64_w, i32_w]
    rfl
  refine pure_ (i := 3) (N := some 7) (v := ?_) (a' := ?_) #[false, true, true, true, false, false] rfl rfl (by kernel_rfl) (fun _ _ _ h => h) (Or.inl ⟨by rfl, ?_⟩) ?_ ?_
  rotate_left
  · intro w'
    go_simp
    with_reducible rfl
  rotate_left
  · simp only [Act.put, List.setIfInBounds_toArray, List.set_cons_zero, List.set_cons_succ, i64_w, i32_w]
    rfl
  refine take_ (i := 0) (N := some 4) (v := ?_) (a' := ?_) #[true, true, true, true, false, false] rfl rfl (by kernel_rfl) (fun _ _ _ h => h) (Or.inl ⟨by rfl, ?_⟩) hHeld ?_ ?_
  rotate_left
  · intro w' s0
    go_simp
    with_reducible rfl
  rotate_left
  · simp only [Act.put, List.setIfInBounds_toArray, List.set_cons_zero, List.set_cons_succ, i64_w, i32_w]
    rfl
  refine take_ (i := 4) (N := some 8) (v := ?_) (a' := ?_) #[true, true, true, true, true, false] rfl rfl (by kernel_rfl) (fun _ _ _ h => h) (Or.inl ⟨by rfl, ?_⟩) hHeld ?_ ?_
  rotate_left
  · intro w' s0
    go_simp
    with_reducible rfl
  rotate_left
  · simp only [Act.put, List.setIfInBounds_toArray, List.set_cons_zero, List.set_cons_succ, i64_w, i32_w]
    rfl
  refine one_ (i := 5) (N := some 9) #[true, true, true, true, true, true] rfl rfl (by kernel_rfl) (by decide) (fun K hK => ?_)
  refine goes_ Try.func137 (by kernel_rfl) rfl #[.agg #[], .slice (some ⟨g, 0, none⟩) 8 c, .int .u64 b] (by rfl) rfl rfl (by (try simp only [List.map_toArray, List.map_cons, List.map_nil]); first | done | rfl) ?_
  refine (beP_ok g 0 8 c b (by decide) cur _ hh (by omega)).mono ?_
  rintro e W9 ⟨rfl, hh1, BW1, OW1⟩
  refine ⟨_, rfl, ?_⟩
  refine hK.out _ _ (((blk_cell ((OW1 t ht (blk_lt KT)).trans KT) 1).trans rfl)) (fun hHeld => ?_)
  clear hK K
  refine norm_ (a' := ?_) ?_ ?_
  rotate_left
  · show Act.put _ (some 9) _ = _
    simp only [Act.put, List.setIfInBounds_toArray, List.set_cons_zero, List.set_cons_succ, i64_w, i32_w]
    rfl
  refine done_ (by kernel_rfl) ?_
  replace KT := (OW1 t ht (blk_lt KT)).trans KT
  replace BW := BW.trans BW1
  have E1 := Lib.hid (And.intro hh1 (And.intro KT BW))
  clear hh1 BW1 OW1 hh KT BW
  go_wp2_with fail
  obtain ⟨hh, KT, BW⟩ := E1.out
  clear E1
  have c0 := (blk_cell KT 0).trans (show _ = some (.int .u64 a) from rfl)
  refine start_ (n := 6) (S := fun w' => w'.cell? ⟨t, 0, none⟩ = some (.int .u64 a)) (ds := []) #[false, false, false, false, false, false] (by kernel_rfl) rfl rfl (c0) (fun hHeld => ?_)
  replace hh : W9.drew.heap[g]? = _ := hh
  replace KT : W9.drew.heap[t]? = some (.cells #[.int .u64 a, .int .u64 b] 59 (0, 0)) := KT
  replace BW := BW.drew
  clear c0
  generalize W9.drew = W0 at hh KT BW hHeld ⊢
  refine pure_ (i := 1) (N := some 11) (v := ?_) (a' := ?_) #[false, true, false, false, false, false] rfl rfl (by kernel_rfl) (fun _ _ _ h => h) (Or.inl ⟨by rfl, ?_⟩) ?_ ?_
  rotate_left
  · intro w'
    go_simp
    with_reducible rfl
  rotate_left
  · simp only [Act.put, List.setIfInBounds_toArray, List.set_cons_zero, List.set_cons_succ, i64_w, i32_w]
    rfl
  refine pure_ (i := 2) (N := some 12) (v := ?_) (a' := ?_) #[false, true, true, false, false, false] rfl rfl (by kernel_rfl) (fun _ _ _ h => h) (Or.inl ⟨by rfl, ?_⟩) ?_ ?_
  rotate_left
  · intro w'
    go_simp
    with_reducible rfl
  rotate_left
  · simp only [Act.put, List.setIfInBounds_toArray, List.set_cons_zero, List.set_cons_succ, i64_w, i32_w]
    rfl
  refine pure_ (i := 3) (N := some 13) (v := ?_) (a' := ?_) #[false, true, true, true, false, false] rfl rfl (by kernel_rfl) (fun _ _ _ h => h) (Or.inl ⟨by rfl, ?_⟩) ?_ ?_
  rotate_left
  · intro w'
    go_simp
    with_reducible rfl
  rotate_left
  · simp only [Act.put, List.setIfInBounds_toArray, List.set_cons_zero, List.set_cons_succ, i64_w, i32_w]
    rfl
  refine take_ (i := 0) (N := some 10) (v := ?_) (a' := ?_) #[true, true, true, true, false, false] rfl rfl (by kernel_rfl) (fun _ _ _ h => h) (Or.inl ⟨by rfl, ?_⟩) hHeld ?_ ?_
  rotate_left
  · intro w' s0
    go_simp
    with_reducible rfl
  rotate_left
  · simp only [Act.put, List.setIfInBounds_toArray, List.set_cons_zero, List.set_cons_succ, i64_w, i32_w]
    rfl
  refine take_ (i := 4) (N := some 14) (v := ?_) (a' := ?_) #[true, true, true, true, true, false] rfl rfl (by kernel_rfl) (fun _ _ _ h => h) (Or.inl ⟨by rfl, ?_⟩) hHeld ?_ ?_
  rotate_left
  · intro w' s0
    go_simp
    with_reducible rfl
  rotate_left
  · simp only [Act.put, List.setIfInBounds_toArray, List.set_cons_zero, List.set_cons_succ, i64_w, i32_w]
    rfl
  refine one_ (i := 5) (N := some 15) #[true, true, true, true, true, true] rfl rfl (by kernel_rfl) (by decide) (fun K hK => ?_)
  refine goes_ Try.func137 (by kernel_rfl) rfl #[.agg #[], .slice (some ⟨g, 8, none⟩) (n - 8) (c - 8), .int .u64 a] (by rfl) rfl rfl (by (try simp only [List.map_toArray, List.map_cons, List.map_nil]); first | done | rfl) ?_
  refine (beP_ok g 8 (n - 8) (c - 8) a (by omega) (put8 cur 0 (b / 72057594037927936 % 256) (b / 281474976710656 % 256) (b / 1099511627776 % 256) (b / 4294967296 % 256) (b / 16777216 % 256) (b / 65536 % 256) (b / 256 % 256) (b % 256)) _ hh (by simp only [put8, Array.size_setIfInBounds]; omega)).mono ?_
  rintro e W9 ⟨rfl, hh1, BW1, OW1⟩
  refine ⟨_, rfl, ?_⟩
  refine hK.out _ _ (((blk_cell ((OW1 t ht (blk_lt KT)).trans KT) 0).trans rfl)) (fun hHeld => ?_)
  clear hK K
  refine norm_ (a' := ?_) ?_ ?_
  rotate_left
  · show Act.put _ (some 15) _ = _
    simp only [Act.put, List.setIfInBounds_toArray, List.set_cons_zero, List.set_cons_succ, i64_w, i32_w]
    rfl
  refine done_ (by kernel_rfl) ?_
  have E2 := Lib.hid (And.intro hh1 (BW.trans BW1))
  clear hh1 BW1 OW1 hh KT BW
  refine bodyPost_end (results_none rfl _ _ _) rfl ?_
  exact ⟨rfl, E2.out⟩
end Go.Proofs.Ytiifnofghicnaaa.BAll
