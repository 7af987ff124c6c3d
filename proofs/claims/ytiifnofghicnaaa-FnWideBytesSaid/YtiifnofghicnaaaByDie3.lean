/- PutBytes and PutBytesBE into too few octets. Printed by gen/bydie.py. -/
import Derived.Test.YtiifnofghicnaaaByDie2
namespace Go.Proofs.Ytiifnofghicnaaa.BAll
open Go.RowKit Go.Proofs.YtiifnofghicnaaaW.PrintWords Go.Proofs.YtiifnofghicnaaaW.PrintLast Go.Proofs.YtiifnofghicnaaaW.PrintMore
set_option linter.unusedVariables false
set_option linter.unusedSimpArgs false
/-- A call that returns or panics, in a region that draws its order. -/
theorem rgoes_ {P : Program} {ops : Array Oper} {Q : Exit → Act → World → Prop} {oi : Oper} {N : Option Tmp} {a : Act} {w : World} {K : Act → World → Prop} {f : FuncId} {fn : Func} {as1 : Array Operand} {ts : Array TypeId} (hf : P.funcs[f]? = some fn) (hname : (fn.name == "runtime.NumGoroutine") = false) (hb : fn.body.isSome = true) (args : Array Value)
    (hw : Region.wanted oi (yielded ops a.tmps) = true) (hN : oi.dst = N) (hop : oi.op = .call { callee := .value (.func f), args := as1, argTypes := ts }) (hargs : as1.map a.eval = args)
    (h : Calls P f args w fun e w' => (∃ v, e = .returned v ∧ K (a.put N v) w') ∨ (∃ c, e = .panicked c ∧ Q (.panic c) a w')) : if Region.wanted oi (yielded ops a.tmps) = true then Oper.wp P oi a w K Q else K (a.put N undef) w := by
  subst hN
  rw [if_pos hw]
  have he := enters_ hf hname hb args w
  have hrun : (execOp a.eval oi).run P w = .ok (.enter f args) w := by
    unfold execOp
    simp [hop, resolve, Deferred.ofValue, invoke, Act.eval, hargs, he]
  unfold Oper.wp
  rw [hrun, Oper.upon_enter]
  refine h.mono fun e w'' hh => ?_
  obtain ⟨v, rfl, hk⟩ | ⟨c, rfl, hk⟩ := hh
  · exact hk
  · exact hk
theorem slice_from_p (g l n c : Nat) (hl : l ≤ n) : ∃ p : Addr, ∀ W : World, (Instr.slice 54 (.slice (some ⟨g, 0, none⟩) n c) (some (.int .i64 (l : Int))) none none).run Try.prog W = .ok (.slice (some p) (n - l) (c - l)) W := by
  have ht := Try.underlying54
  have ht' : Try.prog.underlying 54 = some (.slice (Try.prog.elem 54)) := by simp [Program.elem, ht]
  have he : Try.prog.elem 54 = 5 := by simp [Program.elem, ht]
  refine ⟨if c = l then ⟨g, 0, none⟩ else (Addr.add ⟨g, 0, none⟩ (l * 1)), fun W => ?_⟩
  rw [run_slice_l W _ _ _ _ ht' .i64 _ (by omega) (by omega), he, Try.sizeOf5]
  by_cases h : c = l
  · simp [Result.andThen, sliced, h]
  · simp [Result.andThen, sliced, h]
set_option maxHeartbeats 1000000 in
set_option maxRecDepth 100000 in
theorem pb_no1 (A : Option Addr) (n c : Nat) (a b : Int) (hc : c < 8) (w : World) :
    Calls Try.prog 125 #[.agg #[.int .u64 a, .int .u64 b], .slice A n c] w fun e w' => (∃ pv, e = .panicked [{ v := .iface Try.prog.rt.boundsError pv, recovered := false }]) ∧ Below w.heap.size w w' := by
  have B0 := (Below.refl w.heap.size w).alloc (Nat.le_refl _) (.cells #[.int .u64 a, .int .u64 b] 59)
  have KT := (MapKept.heap_alloc w (.cells #[.int .u64 a, .int .u64 b] 59)).1
  have E0 := Lib.hid (And.intro KT B0)
  clear KT B0
  go_enter Try.func125, Try.ntmps125
  go_wp2_with fail
  obtain ⟨KT, BW⟩ := E0.out
  clear E0
  have c0 := (blk_cell KT 0).trans (show _ = some (.int .u64 a) from rfl)
  have c1 := (blk_cell KT 1).trans (show _ = some (.int .u64 b) from rfl)
  generalize hts : w.heap.size = t at KT BW c0 c1 ⊢
  generalize w.alloc (.cells #[.int .u64 a, .int .u64 b] 59) = V0 at KT BW c0 c1 ⊢
  obtain ⟨pv, w2, hi, hb⟩ := dies_bounds (α := Nat) .i64 8 c .sliceAcap V0.drew
  have BF : Below t w w2 := BW.drew.trans (hb _)
  go_region_dies
  all_goals
    subst hts
    rw [if_neg (by omega)]
    exact ⟨rfl, ⟨_, rfl⟩, BF⟩
set_option maxHeartbeats 1000000 in
set_option maxRecDepth 100000 in
theorem pb_no2 (g n c : Nat) (a b : Int) (hc : 8 ≤ c) (hnc : n ≤ c) (hn : n < 8) (cur : Array Value) (w : World) (hh : w.heap[g]? = some (.cells cur 5 (0, 0))) (hsz : cur.size = c) :
    Calls Try.prog 125 #[.agg #[.int .u64 a, .int .u64 b], .slice (some ⟨g, 0, none⟩) n c] w fun e w' => (∃ pv, e = .panicked [{ v := .iface Try.prog.rt.boundsError pv, recovered := false }]) ∧ Below g w w' := by
  have hs2 := fun W : World => slice_to W g 8 n c (by omega) (by omega)
  rw [show ((8 : Nat) : Int) = 8 from rfl] at hs2
  have hl := blk_lt hh
  have ht : w.heap.size ≠ g := by omega
  have E0 := Lib.hid (And.intro (blk_alloc hh (.cells #[.int .u64 a, .int .u64 b] 59)) (And.intro (MapKept.heap_alloc w (.cells #[.int .u64 a, .int .u64 b] 59)).1 ((Below.refl g w).alloc (Nat.le_of_lt hl) (.cells #[.int .u64 a, .int .u64 b] 59))))
  clear hh
  go_enter Try.func125, Try.ntmps125
  go_wp2_with fail
  obtain ⟨hh, KT, BW⟩ := E0.out
  clear E0
  generalize hts : w.heap.size = t at ht KT ⊢
  generalize w.alloc (.cells #[.int .u64 a, .int .u64 b] 59) = V0 at hh KT BW ⊢
  have c0 := (blk_cell KT 0).trans (show _ = some (.int .u64 a) from rfl)
  refine start_ (n := 6) (S := fun w' => w'.cell? ⟨t, 0, none⟩ = some (.int .u64 a)) (ds := []) #[false, false, false, false, false, false] (by kernel_rfl) rfl rfl (c0) (fun hHeld => ?_)
  replace hh : V0.drew.heap[g]? = _ := hh
  replace KT : V0.drew.heap[t]? = some (.cells #[.int .u64 a, .int .u64 b] 59 (0, 0)) := KT
  replace BW := BW.drew
  clear c0
  generalize V0.drew = W0 at hh KT BW hHeld ⊢
  refine pure_ (i := 1) (N := some 5) (v := ?_) (a' := ?_) #[false, true, false, false, false, false] rfl rfl (by kernel_rfl) (fun _ _ _ h => h) (Or.inl ⟨by rfl, ?_⟩) ?_ ?_
  rotate_left
  · intro w'
    go_simp
    with_reducible rfl
  rotate_left
  · simp only [Act.put, List.setIfInBounds_toArray, List.set_cons_zero, List.set_cons_succ, i64_w, i32_w]
    rfl
  refine pure_ (i := 2) (N := some 6) (v := ?_) (a' := ?_) #[false, true, true, false, false, false] rfl rfl (by kernel_rfl) (fun _ _ _ h => h) (Or.inl ⟨by rfl, ?_⟩) ?_ ?_
  rotate_left
  · intro w'
    go_simp
    with_reducible rfl
  rotate_left
  · simp only [Act.put, List.setIfInBounds_toArray, List.set_cons_zero, List.set_cons_succ, i64_w, i32_w]
    rfl
  refine pure_ (i := 3) (N := some 7) (v := ?_) (a' := ?_) #[false, true, true, true, false, false] rfl rfl (by kernel_rfl) (fun _ _ _ h => h) (Or.inl ⟨by rfl, ?_⟩) ?_ ?_
  rotate_left
  · intro w'
    go_simp
    with_reducible rfl
  rotate_left
  · simp only [Act.put, List.setIfInBounds_toArray, List.set_cons_zero, List.set_cons_succ, i64_w, i32_w]
    rfl
  refine take_ (i := 0) (N := some 4) (v := ?_) (a' := ?_) #[true, true, true, true, false, false] rfl rfl (by kernel_rfl) (fun _ _ _ h => h) (Or.inl ⟨by rfl, ?_⟩) hHeld ?_ ?_
  rotate_left
  · intro w' s0
    go_simp
    with_reducible rfl
  rotate_left
  · simp only [Act.put, List.setIfInBounds_toArray, List.set_cons_zero, List.set_cons_succ, i64_w, i32_w]
    rfl
  refine take_ (i := 4) (N := some 8) (v := ?_) (a' := ?_) #[true, true, true, true, true, false] rfl rfl (by kernel_rfl) (fun _ _ _ h => h) (Or.inl ⟨by rfl, ?_⟩) hHeld ?_ ?_
  rotate_left
  · intro w' s0
    go_simp
    with_reducible rfl
  rotate_left
  · simp only [Act.put, List.setIfInBounds_toArray, List.set_cons_zero, List.set_cons_succ, i64_w, i32_w]
    rfl
  refine one_ (i := 5) (N := some 9) #[true, true, true, true, true, true] rfl rfl (by kernel_rfl) (by decide) (fun K hK => ?_)
  refine goes_ Try.func138 (by kernel_rfl) rfl #[.agg #[], .slice (some ⟨g, 0, none⟩) 8 c, .int .u64 a] (by rfl) rfl rfl (by (try simp only [List.map_toArray, List.map_cons, List.map_nil]); first | done | rfl) ?_
  refine (leP_ok g 0 8 c a (by decide) cur _ hh (by omega)).mono ?_
  rintro e W9 ⟨rfl, hh1, BW1, OW1⟩
  refine ⟨_, rfl, ?_⟩
  refine hK.out _ _ (((blk_cell ((OW1 t ht (blk_lt KT)).trans KT) 0).trans rfl)) (fun hHeld => ?_)
  clear hK K
  refine norm_ (a' := ?_) ?_ ?_
  rotate_left
  · show Act.put _ (some 9) _ = _
    simp only [Act.put, List.setIfInBounds_toArray, List.set_cons_zero, List.set_cons_succ, i64_w, i32_w]
    rfl
  refine done_ (by kernel_rfl) ?_
  replace KT := (OW1 t ht (blk_lt KT)).trans KT
  replace BW := BW.trans BW1
  have E1 := Lib.hid (And.intro hh1 (And.intro KT BW))
  clear hh1 BW1 OW1 hh KT BW
  go_wp2_with fail
  obtain ⟨hh, KT, BW⟩ := E1.out
  clear E1
  have c0 := (blk_cell KT 0).trans (show _ = some (.int .u64 a) from rfl)
  have c1 := (blk_cell KT 1).trans (show _ = some (.int .u64 b) from rfl)
  obtain ⟨pv, w2, hi, hb⟩ := dies_bounds (α := Nat) .i64 8 n .sliceB W9.drew
  have BF : Below g w w2 := BW.drew.trans (hb _)
  clear hs2
  go_region_dies
  all_goals
    first
    | exact ⟨rfl, ⟨_, rfl⟩, BF⟩
    | (rw [if_neg (by omega)]; exact ⟨rfl, ⟨_, rfl⟩, BF⟩)
set_option maxHeartbeats 1000000 in
set_option maxRecDepth 100000 in
theorem pb_no3 (g n c : Nat) (a b : Int) (hc : 8 ≤ c) (hnc : n ≤ c) (h8 : 8 ≤ n) (hn : n < 16) (cur : Array Value) (w : World) (hh : w.heap[g]? = some (.cells cur 5 (0, 0))) (hsz : cur.size = c) :
    Calls Try.prog 125 #[.agg #[.int .u64 a, .int .u64 b], .slice (some ⟨g, 0, none⟩) n c] w fun e w' => (∃ pv, e = .panicked [{ v := .iface Try.prog.rt.boundsError pv, recovered := false }]) ∧ Below g w w' := by
  have hs2 := fun W : World => slice_to W g 8 n c (by omega) (by omega)
  rw [show ((8 : Nat) : Int) = 8 from rfl] at hs2
  have hl := blk_lt hh
  have ht : w.heap.size ≠ g := by omega
  have E0 := Lib.hid (And.intro (blk_alloc hh (.cells #[.int .u64 a, .int .u64 b] 59)) (And.intro (MapKept.heap_alloc w (.cells #[.int .u64 a, .int .u64 b] 59)).1 ((Below.refl g w).alloc (Nat.le_of_lt hl) (.cells #[.int .u64 a, .int .u64 b] 59))))
  clear hh
  go_enter Try.func125, Try.ntmps125
  go_wp2_with fail
  obtain ⟨hh, KT, BW⟩ := E0.out
  clear E0
  generalize hts : w.heap.size = t at ht KT ⊢
  generalize w.alloc (.cells #[.int .u64 a, .int .u64 b] 59) = V0 at hh KT BW ⊢
  have c0 := (blk_cell KT 0).trans (show _ = some (.int .u64 a) from rfl)
  refine start_ (n := 6) (S := fun w' => w'.cell? ⟨t, 0, none⟩ = some (.int .u64 a)) (ds := []) #[false, false, false, false, false, false] (by kernel_rfl) rfl rfl (c0) (fun hHeld => ?_)
  replace hh : V0.drew.heap[g]? = _ := hh
  replace KT : V0.drew.heap[t]? = some (.cells #[.int .u64 a, .int .u64 b] 59 (0, 0)) := KT
  replace BW := BW.drew
  clear c0
  generalize V0.drew = W0 at hh KT BW hHeld ⊢
  refine pure_ (i := 1) (N := some 5) (v := ?_) (a' := ?_) #[false, true, false, false, false, false] rfl rfl (by kernel_rfl) (fun _ _ _ h => h) (Or.inl ⟨by rfl, ?_⟩) ?_ ?_
  rotate_left
  · intro w'
    go_simp
    with_reducible rfl
  rotate_left
  · simp only [Act.put, List.setIfInBounds_toArray, List.set_cons_zero, List.set_cons_succ, i64_w, i32_w]
    rfl
  refine pure_ (i := 2) (N := some 6) (v := ?_) (a' := ?_) #[false, true, true, false, false, false] rfl rfl (by kernel_rfl) (fun _ _ _ h => h) (Or.inl ⟨by rfl, ?_⟩) ?_ ?_
  rotate_left
  · intro w'
    go_simp
    with_reducible rfl
  rotate_left
  · simp only [Act.put, List.setIfInBounds_toArray, List.set_cons_zero, List.set_cons_succ, i64_w, i32_w]
    rfl
  refine pure_ (i := 3) (N := some 7) (v := ?_) (a' := ?_) #[false, true, true, true, false, false] rfl rfl (by kernel_rfl) (fun _ _ _ h => h) (Or.inl ⟨by rfl, ?_⟩) ?_ ?_
  rotate_left
  · intro w'
    go_simp
    with_reducible rfl
  rotate_left
  · simp only [Act.put, List.setIfInBounds_toArray, List.set_cons_zero, List.set_cons_succ, i64_w, i32_w]
    rfl
  refine take_ (i := 0) (N := some 4) (v := ?_) (a' := ?_) #[true, true, true, true, false, false] rfl rfl (by kernel_rfl) (fun _ _ _ h => h) (Or.inl ⟨by rfl, ?_⟩) hHeld ?_ ?_
  rotate_left
  · intro w' s0
    go_simp
    with_reducible rfl
  rotate_left
  · simp only [Act.put, List.setIfInBounds_toArray, List.set_cons_zero, List.set_cons_succ, i64_w, i32_w]
    rfl
  refine take_ (i := 4) (N := some 8) (v := ?_) (a' := ?_) #[true, true, true, true, true, false] rfl rfl (by kernel_rfl) (fun _ _ _ h => h) (Or.inl ⟨by rfl, ?_⟩) hHeld ?_ ?_
  rotate_left
  · intro w' s0
    go_simp
    with_reducible rfl
  rotate_left
  · simp only [Act.put, List.setIfInBounds_toArray, List.set_cons_zero, List.set_cons_succ, i64_w, i32_w]
    rfl
  refine one_ (i := 5) (N := some 9) #[true, true, true, true, true, true] rfl rfl (by kernel_rfl) (by decide) (fun K hK => ?_)
  refine goes_ Try.func138 (by kernel_rfl) rfl #[.agg #[], .slice (some ⟨g, 0, none⟩) 8 c, .int .u64 a] (by rfl) rfl rfl (by (try simp only [List.map_toArray, List.map_cons, List.map_nil]); first | done | rfl) ?_
  refine (leP_ok g 0 8 c a (by decide) cur _ hh (by omega)).mono ?_
  rintro e W9 ⟨rfl, hh1, BW1, OW1⟩
  refine ⟨_, rfl, ?_⟩
  refine hK.out _ _ (((blk_cell ((OW1 t ht (blk_lt KT)).trans KT) 0).trans rfl)) (fun hHeld => ?_)
  clear hK K
  refine norm_ (a' := ?_) ?_ ?_
  rotate_left
  · show Act.put _ (some 9) _ = _
    simp only [Act.put, List.setIfInBounds_toArray, List.set_cons_zero, List.set_cons_succ, i64_w, i32_w]
    rfl
  refine done_ (by kernel_rfl) ?_
  replace KT := (OW1 t ht (blk_lt KT)).trans KT
  replace BW := BW.trans BW1
  have E1 := Lib.hid (And.intro hh1 (And.intro KT BW))
  clear hh1 BW1 OW1 hh KT BW
  go_wp2_with fail
  obtain ⟨hh, KT, BW⟩ := E1.out
  clear E1
  have c0 := (blk_cell KT 0).trans (show _ = some (.int .u64 a) from rfl)
  have c1 := (blk_cell KT 1).trans (show _ = some (.int .u64 b) from rfl)
  obtain ⟨p, hs1⟩ := slice_from_p g 8 n c h8
  rw [show ((8 : Nat) : Int) = 8 from rfl] at hs1
  clear hs2
  refine start_ (n := 6) (S := fun w' => w'.cell? ⟨t, 1, none⟩ = some (.int .u64 b)) (ds := []) #[false, false, false, false, false, false] (by kernel_rfl) rfl rfl (c1) (fun hHeld => ?_)
  replace hh : W9.drew.heap[g]? = _ := hh
  replace BW := BW.drew
  clear c0 c1
  generalize W9.drew = W0 at hh BW hHeld ⊢
  refine pure_ (i := 1) (N := some 11) (v := ?_) (a' := ?_) #[false, true, false, false, false, false] rfl rfl (by kernel_rfl) (fun _ _ _ h => h) (Or.inl ⟨by rfl, ?_⟩) ?_ ?_
  rotate_left
  · intro w'
    go_simp
    with_reducible rfl
  rotate_left
  · simp only [Act.put, List.setIfInBounds_toArray, List.set_cons_zero, List.set_cons_succ, i64_w, i32_w]
    rfl
  refine pure_ (i := 2) (N := some 12) (v := ?_) (a' := ?_) #[false, true, true, false, false, false] rfl rfl (by kernel_rfl) (fun _ _ _ h => h) (Or.inl ⟨by rfl, ?_⟩) ?_ ?_
  rotate_left
  · intro w'
    go_simp
    with_reducible rfl
  rotate_left
  · simp only [Act.put, List.setIfInBounds_toArray, List.set_cons_zero, List.set_cons_succ, i64_w, i32_w]
    rfl
  refine pure_ (i := 3) (N := some 13) (v := ?_) (a' := ?_) #[false, true, true, true, false, false] rfl rfl (by kernel_rfl) (fun _ _ _ h => h) (Or.inl ⟨by rfl, ?_⟩) ?_ ?_
  rotate_left
  · intro w'
    go_simp
    with_reducible rfl
  rotate_left
  · simp only [Act.put, List.setIfInBounds_toArray, List.set_cons_zero, List.set_cons_succ, i64_w, i32_w]
    rfl
  refine take_ (i := 0) (N := some 10) (v := ?_) (a' := ?_) #[true, true, true, true, false, false] rfl rfl (by kernel_rfl) (fun _ _ _ h => h) (Or.inl ⟨by rfl, ?_⟩) hHeld ?_ ?_
  rotate_left
  · intro w' s0
    go_simp
    with_reducible rfl
  rotate_left
  · simp only [Act.put, List.setIfInBounds_toArray, List.set_cons_zero, List.set_cons_succ, i64_w, i32_w]
    rfl
  refine take_ (i := 4) (N := some 14) (v := ?_) (a' := ?_) #[true, true, true, true, true, false] rfl rfl (by kernel_rfl) (fun _ _ _ h => h) (Or.inl ⟨by rfl, ?_⟩) hHeld ?_ ?_
  rotate_left
  · intro w' s0
    go_simp
    with_reducible rfl
  rotate_left
  · simp only [Act.put, List.setIfInBounds_toArray, List.set_cons_zero, List.set_cons_succ, i64_w, i32_w]
    rfl
  refine one_ (i := 5) (N := some 15) #[true, true, true, true, true, true] rfl rfl (by kernel_rfl) (by decide) (fun K hK => ?_)
  refine rgoes_ Try.func138 (by kernel_rfl) rfl #[.agg #[], .slice (some p) (n - 8) (c - 8), .int .u64 b] (by rfl) rfl rfl (by (try simp only [List.map_toArray, List.map_cons, List.map_nil]); first | done | rfl) ?_
  refine (leP_no (some p) (n - 8) (c - 8) b (by simp) (by omega) _).mono ?_
  rintro e W8 ⟨⟨pv, rfl⟩, hb⟩
  exact Or.inr ⟨_, rfl, rfl, ⟨_, rfl⟩, BW.trans (hb.mono (Nat.le_of_lt (blk_lt hh)))⟩
set_option maxHeartbeats 1000000 in
set_option maxRecDepth 100000 in
theorem pbe_no1 (A : Option Addr) (n c : Nat) (a b : Int) (hc : c < 8) (w : World) :
    Calls Try.prog 124 #[.agg #[.int .u64 a, .int .u64 b], .slice A n c] w fun e w' => (∃ pv, e = .panicked [{ v := .iface Try.prog.rt.boundsError pv, recovered := false }]) ∧ Below w.heap.size w w' := by
  have B0 := (Below.refl w.heap.size w).alloc (Nat.le_refl _) (.cells #[.int .u64 a, .int .u64 b] 59)
  have KT := (MapKept.heap_alloc w (.cells #[.int .u64 a, .int .u64 b] 59)).1
  have E0 := Lib.hid (And.intro KT B0)
  clear KT B0
  go_enter Try.func124, Try.ntmps124
  go_wp2_with fail
  obtain ⟨KT, BW⟩ := E0.out
  clear E0
  have c0 := (blk_cell KT 0).trans (show _ = some (.int .u64 a) from rfl)
  have c1 := (blk_cell KT 1).trans (show _ = some (.int .u64 b) from rfl)
  generalize hts : w.heap.size = t at KT BW c0 c1 ⊢
  generalize w.alloc (.cells #[.int .u64 a, .int .u64 b] 59) = V0 at KT BW c0 c1 ⊢
  obtain ⟨pv, w2, hi, hb⟩ := dies_bounds (α := Nat) .i64 8 c .sliceAcap V0.drew
  have BF : Below t w w2 := BW.drew.trans (hb _)
  go_region_dies
  all_goals
    subst hts
    rw [if_neg (by omega)]
    exact ⟨rfl, ⟨_, rfl⟩, BF⟩
set_option maxHeartbeats 1000000 in
set_option maxRecDepth 100000 in
theorem pbe_no2 (g n c : Nat) (a b : Int) (hc : 8 ≤ c) (hnc : n ≤ c) (hn : n < 8) (cur : Array Value) (w : World) (hh : w.heap[g]? = some (.cells cur 5 (0, 0))) (hsz : cur.size = c) :
    Calls Try.prog 124 #[.agg #[.int .u64 a, .int .u64 b], .slice (some ⟨g, 0, none⟩) n c] w fun e w' => (∃ pv, e = .panicked [{ v := .iface Try.prog.rt.boundsError pv, recovered := false }]) ∧ Below g w w' := by
  have hs2 := fun W : World => slice_to W g 8 n c (by omega) (by omega)
  rw [show ((8 : Nat) : Int) = 8 from rfl] at hs2
  have hl := blk_lt hh
  have ht : w.heap.size ≠ g := by omega
  have E0 := Lib.hid (And.intro (blk_alloc hh (.cells #[.int .u64 a, .int .u64 b] 59)) (And.intro (MapKept.heap_alloc w (.cells #[.int .u64 a, .int .u64 b] 59)).1 ((Below.refl g w).alloc (Nat.le_of_lt hl) (.cells #[.int .u64 a, .int .u64 b] 59))))
  clear hh
  go_enter Try.func124, Try.ntmps124
  go_wp2_with fail
  obtain ⟨hh, KT, BW⟩ := E0.out
  clear E0
  generalize hts : w.heap.size = t at ht KT ⊢
  generalize w.alloc (.cells #[.int .u64 a, .int .u64 b] 59) = V0 at hh KT BW ⊢
  have c0 := (blk_cell KT 1).trans (show _ = some (.int .u64 b) from rfl)
  refine start_ (n := 6) (S := fun w' => w'.cell? ⟨t, 1, none⟩ = some (.int .u64 b)) (ds := []) #[false, false, false, false, false, false] (by kernel_rfl) rfl rfl (c0) (fun hHeld => ?_)
  replace hh : V0.drew.heap[g]? = _ := hh
  replace KT : V0.drew.heap[t]? = some (.cells #[.int .u64 a, .int .u64 b] 59 (0, 0)) := KT
  replace BW := BW.drew
  clear c0
  generalize V0.drew = W0 at hh KT BW hHeld ⊢
  refine pure_ (i := 1) (N := some 5) (v := ?_) (a' := ?_) #[false, true, false, false, false, false] rfl rfl (by kernel_rfl) (fun _ _ _ h => h) (Or.inl ⟨by rfl, ?_⟩) ?_ ?_
  rotate_left
  · intro w'
    go_simp
    with_reducible rfl
  rotate_left
  · simp only [Act.put, List.setIfInBounds_toArray, List.set_cons_zero, List.set_cons_succ, i64_w, i32_w]
    rfl
  refine pure_ (i := 2) (N := some 6) (v := ?_) (a' := ?_) #[false, true, true, false, false, false] rfl rfl (by kernel_rfl) (fun _ _ _ h => h) (Or.inl ⟨by rfl, ?_⟩) ?_ ?_
  rotate_left
  · intro w'
    go_simp
    with_reducible rfl
  rotate_left
  · simp only [Act.put, List.setIfInBounds_toArray, List.set_cons_zero, List.set_cons_succ, i64_w, i32_w]
    rfl
  refine pure_ (i := 3) (N := some 7) (v := ?_) (a' := ?_) #[false, true, true, true, false, false] rfl rfl (by kernel_rfl) (fun _ _ _ h => h) (Or.inl ⟨by rfl, ?_⟩) ?_ ?_
  rotate_left
  · intro w'
    go_simp
    with_reducible rfl
  rotate_left
  · simp only [Act.put, List.setIfInBounds_toArray, List.set_cons_zero, List.set_cons_succ, i64_w, i32_w]
    rfl
  refine take_ (i := 0) (N := some 4) (v := ?_) (a' := ?_) #[true, true, true, true, false, false] rfl rfl (by kernel_rfl) (fun _ _ _ h => h) (Or.inl ⟨by rfl, ?_⟩) hHeld ?_ ?_
  rotate_left
  · intro w' s0
    go_simp
    with_reducible rfl
  rotate_left
  · simp only [Act.put, List.setIfInBounds_toArray, List.set_cons_zero, List.set_cons_succ, i64_w, i32_w]
    rfl
  refine take_ (i := 4) (N := some 8) (v := ?_) (a' := ?_) #[true, true, true, true, true, false] rfl rfl (by kernel_rfl) (fun _ _ _ h => h) (Or.inl ⟨by rfl, ?_⟩) hHeld ?_ ?_
  rotate_left
  · intro w' s0
    go_simp
    with_reducible rfl
  rotate_left
  · simp only [Act.put, List.setIfInBounds_toArray, List.set_cons_zero, List.set_cons_succ, i64_w, i32_w]
    rfl
  refine one_ (i := 5) (N := some 9) #[true, true, true, true, true, true] rfl rfl (by kernel_rfl) (by decide) (fun K hK => ?_)
  refine goes_ Try.func137 (by kernel_rfl) rfl #[.agg #[], .slice (some ⟨g, 0, none⟩) 8 c, .int .u64 b] (by rfl) rfl rfl (by (try simp only [List.map_toArray, List.map_cons, List.map_nil]); first | done | rfl) ?_
  refine (beP_ok g 0 8 c b (by decide) cur _ hh (by omega)).mono ?_
  rintro e W9 ⟨rfl, hh1, BW1, OW1⟩
  refine ⟨_, rfl, ?_⟩
  refine hK.out _ _ (((blk_cell ((OW1 t ht (blk_lt KT)).trans KT) 1).trans rfl)) (fun hHeld => ?_)
  clear hK K
  refine norm_ (a' := ?_) ?_ ?_
  rotate_left
  · show Act.put _ (some 9) _ = _
    simp only [Act.put, List.setIfInBounds_toArray, List.set_cons_zero, List.set_cons_succ, i64_w, i32_w]
    rfl
  refine done_ (by kernel_rfl) ?_
  replace KT := (OW1 t ht (blk_lt KT)).trans KT
  replace BW := BW.trans BW1
  have E1 := Lib.hid (And.intro hh1 (And.intro KT BW))
  clear hh1 BW1 OW1 hh KT BW
  go_wp2_with fail
  obtain ⟨hh, KT, BW⟩ := E1.out
  clear E1
  have c0 := (blk_cell KT 0).trans (show _ = some (.int .u64 a) from rfl)
  have c1 := (blk_cell KT 1).trans (show _ = some (.int .u64 b) from rfl)
  obtain ⟨pv, w2, hi, hb⟩ := dies_bounds (α := Nat) .i64 8 n .sliceB W9.drew
  have BF : Below g w w2 := BW.drew.trans (hb _)
  clear hs2
  go_region_dies
  all_goals
    first
    | exact ⟨rfl, ⟨_, rfl⟩, BF⟩
    | (rw [if_neg (by omega)]; exact ⟨rfl, ⟨_, rfl⟩, BF⟩)
set_option maxHeartbeats 1000000 in
set_option maxRecDepth 100000 in
theorem pbe_no3 (g n c : Nat) (a b : Int) (hc : 8 ≤ c) (hnc : n ≤ c) (h8 : 8 ≤ n) (hn : n < 16) (cur : Array Value) (w : World) (hh : w.heap[g]? = some (.cells cur 5 (0, 0))) (hsz : cur.size = c) :
    Calls Try.prog 124 #[.agg #[.int .u64 a, .int .u64 b], .slice (some ⟨g, 0, none⟩) n c] w fun e w' => (∃ pv, e = .panicked [{ v := .iface Try.prog.rt.boundsError pv, recovered := false }]) ∧ Below g w w' := by
  have hs2 := fun W : World => slice_to W g 8 n c (by omega) (by omega)
  rw [show ((8 : Nat) : Int) = 8 from rfl] at hs2
  have hl := blk_lt hh
  have ht : w.heap.size ≠ g := by omega
  have E0 := Lib.hid (And.intro (blk_alloc hh (.cells #[.int .u64 a, .int .u64 b] 59)) (And.intro (MapKept.heap_alloc w (.cells #[.int .u64 a, .int .u64 b] 59)).1 ((Below.refl g w).alloc (Nat.le_of_lt hl) (.cells #[.int .u64 a, .int .u64 b] 59))))
  clear hh
  go_enter Try.func124, Try.ntmps124
  go_wp2_with fail
  obtain ⟨hh, KT, BW⟩ := E0.out
  clear E0
  generalize hts : w.heap.size = t at ht KT ⊢
  generalize w.alloc (.cells #[.int .u64 a, .int .u64 b] 59) = V0 at hh KT BW ⊢
  have c0 := (blk_cell KT 1).trans (show _ = some (.int .u64 b) from rfl)
  refine start_ (n := 6) (S := fun w' => w'.cell? ⟨t, 1, none⟩ = some (.int .u64 b)) (ds := []) #[false, false, false, false, false, false] (by kernel_rfl) rfl rfl (c0) (fun hHeld => ?_)
  replace hh : V0.drew.heap[g]? = _ := hh
  replace KT : V0.drew.heap[t]? = some (.cells #[.int .u64 a, .int .u64 b] 59 (0, 0)) := KT
  replace BW := BW.drew
  clear c0
  generalize V0.drew = W0 at hh KT BW hHeld ⊢
  refine pure_ (i := 1) (N := some 5) (v := ?_) (a' := ?_) #[false, true, false, false, false, false] rfl rfl (by kernel_rfl) (fun _ _ _ h => h) (Or.inl ⟨by rfl, ?_⟩) ?_ ?_
  rotate_left
  · intro w'
    go_simp
    with_reducible rfl
  rotate_left
  · simp only [Act.put, List.setIfInBounds_toArray, List.set_cons_zero, List.set_cons_succ, i64_w, i32_w]
    rfl
  refine pure_ (i := 2) (N := some 6) (v := ?_) (a' := ?_) #[false, true, true, false, false, false] rfl rfl (by kernel_rfl) (fun _ _ _ h => h) (Or.inl ⟨by rfl, ?_⟩) ?_ ?_
  rotate_left
  · intro w'
    go_simp
    with_reducible rfl
  rotate_left
  · simp only [Act.put, List.setIfInBounds_toArray, List.set_cons_zero, List.set_cons_succ, i64_w, i32_w]
    rfl
  refine pure_ (i := 3) (N := some 7) (v := ?_) (a' := ?_) #[false, true, true, true, false, false] rfl rfl (by kernel_rfl) (fun _ _ _ h => h) (Or.inl ⟨by rfl, ?_⟩) ?_ ?_
  rotate_left
  · intro w'
    go_simp
    with_reducible rfl
  rotate_left
  · simp only [Act.put, List.setIfInBounds_toArray, List.set_cons_zero, List.set_cons_succ, i64_w, i32_w]
    rfl
  refine take_ (i := 0) (N := some 4) (v := ?_) (a' := ?_) #[true, true, true, true, false, false] rfl rfl (by kernel_rfl) (fun _ _ _ h => h) (Or.inl ⟨by rfl, ?_⟩) hHeld ?_ ?_
  rotate_left
  · intro w' s0
    go_simp
    with_reducible rfl
  rotate_left
  · simp only [Act.put, List.setIfInBounds_toArray, List.set_cons_zero, List.set_cons_succ, i64_w, i32_w]
    rfl
  refine take_ (i := 4) (N := some 8) (v := ?_) (a' := ?_) #[true, true, true, true, true, false] rfl rfl (by kernel_rfl) (fun _ _ _ h => h) (Or.inl ⟨by rfl, ?_⟩) hHeld ?_ ?_
  rotate_left
  · intro w' s0
    go_simp
    with_reducible rfl
  rotate_left
  · simp only [Act.put, List.setIfInBounds_toArray, List.set_cons_zero, List.set_cons_succ, i64_w, i32_w]
    rfl
  refine one_ (i := 5) (N := some 9) #[true, true, true, true, true, true] rfl rfl (by kernel_rfl) (by decide) (fun K hK => ?_)
  refine goes_ Try.func137 (by kernel_rfl) rfl #[.agg #[], .slice (some ⟨g, 0, none⟩) 8 c, .int .u64 b] (by rfl) rfl rfl (by (try simp only [List.map_toArray, List.map_cons, List.map_nil]); first | done | rfl) ?_
  refine (beP_ok g 0 8 c b (by decide) cur _ hh (by omega)).mono ?_
  rintro e W9 ⟨rfl, hh1, BW1, OW1⟩
  refine ⟨_, rfl, ?_⟩
  refine hK.out _ _ (((blk_cell ((OW1 t ht (blk_lt KT)).trans KT) 1).trans rfl)) (fun hHeld => ?_)
  clear hK K
  refine norm_ (a' := ?_) ?_ ?_
  rotate_left
  · show Act.put _ (some 9) _ = _
    simp only [Act.put, List.setIfInBounds_toArray, List.set_cons_zero, List.set_cons_succ, i64_w, i32_w]
    rfl
  refine done_ (by kernel_rfl) ?_
  replace KT := (OW1 t ht (blk_lt KT)).trans KT
  replace BW := BW.trans BW1
  have E1 := Lib.hid (And.intro hh1 (And.intro KT BW))
  clear hh1 BW1 OW1 hh KT BW
  go_wp2_with fail
  obtain ⟨hh, KT, BW⟩ := E1.out
  clear E1
  have c0 := (blk_cell KT 0).trans (show _ = some (.int .u64 a) from rfl)
  have c1 := (blk_cell KT 1).trans (show _ = some (.int .u64 b) from rfl)
  obtain ⟨p, hs1⟩ := slice_from_p g 8 n c h8
  rw [show ((8 : Nat) : Int) = 8 from rfl] at hs1
  clear hs2
  refine start_ (n := 6) (S := fun w' => w'.cell? ⟨t, 0, none⟩ = some (.int .u64 a)) (ds := []) #[false, false, false, false, false, false] (by kernel_rfl) rfl rfl (c0) (fun hHeld => ?_)
  replace hh : W9.drew.heap[g]? = _ := hh
  replace BW := BW.drew
  clear c0 c1
  generalize W9.drew = W0 at hh BW hHeld ⊢
  refine pure_ (i := 1) (N := some 11) (v := ?_) (a' := ?_) #[false, true, false, false, false, false] rfl rfl (by kernel_rfl) (fun _ _ _ h => h) (Or.inl ⟨by rfl, ?_⟩) ?_ ?_
  rotate_left
  · intro w'
    go_simp
    with_reducible rfl
  rotate_left
  · simp only [Act.put, List.setIfInBounds_toArray, List.set_cons_zero, List.set_cons_succ, i64_w, i32_w]
    rfl
  refine pure_ (i := 2) (N := some 12) (v := ?_) (a' := ?_) #[false, true, true, false, false, false] rfl rfl (by kernel_rfl) (fun _ _ _ h => h) (Or.inl ⟨by rfl, ?_⟩) ?_ ?_
  rotate_left
  · intro w'
    go_simp
    with_reducible rfl
  rotate_left
  · simp only [Act.put, List.setIfInBounds_toArray, List.set_cons_zero, List.set_cons_succ, i64_w, i32_w]
    rfl
  refine pure_ (i := 3) (N := some 13) (v := ?_) (a' := ?_) #[false, true, true, true, false, false] rfl rfl (by kernel_rfl) (fun _ _ _ h => h) (Or.inl ⟨by rfl, ?_⟩) ?_ ?_
  rotate_left
  · intro w'
    go_simp
    with_reducible rfl
  rotate_left
  · simp only [Act.put, List.setIfInBounds_toArray, List.set_cons_zero, List.set_cons_succ, i64_w, i32_w]
    rfl
  refine take_ (i := 0) (N := some 10) (v := ?_) (a' := ?_) #[true, true, true, true, false, false] rfl rfl (by kernel_rfl) (fun _ _ _ h => h) (Or.inl ⟨by rfl, ?_⟩) hHeld ?_ ?_
  rotate_left
  · intro w' s0
    go_simp
    with_reducible rfl
  rotate_left
  · simp only [Act.put, List.setIfInBounds_toArray, List.set_cons_zero, List.set_cons_succ, i64_w, i32_w]
    rfl
  refine take_ (i := 4) (N := some 14) (v := ?_) (a' := ?_) #[true, true, true, true, true, false] rfl rfl (by kernel_rfl) (fun _ _ _ h => h) (Or.inl ⟨by rfl, ?_⟩) hHeld ?_ ?_
  rotate_left
  · intro w' s0
    go_simp
    with_reducible rfl
  rotate_left
  · simp only [Act.put, List.setIfInBounds_toArray, List.set_cons_zero, List.set_cons_succ, i64_w, i32_w]
    rfl
  refine one_ (i := 5) (N := some 15) #[true, true, true, true, true, true] rfl rfl (by kernel_rfl) (by decide) (fun K hK => ?_)
  refine rgoes_ Try.func137 (by kernel_rfl) rfl #[.agg #[], .slice (some p) (n - 8) (c - 8), .int .u64 a] (by rfl) rfl rfl (by (try simp only [List.map_toArray, List.map_cons, List.map_nil]); first | done | rfl) ?_
  refine (beP_no (some p) (n - 8) (c - 8) a (by simp) (by omega) _).mono ?_
  rintro e W8 ⟨⟨pv, rfl⟩, hb⟩
  exact Or.inr ⟨_, rfl, rfl, ⟨_, rfl⟩, BW.trans (hb.mono (Nat.le_of_lt (blk_lt hh)))⟩
end Go.Proofs.Ytiifnofghicnaaa.BAll
