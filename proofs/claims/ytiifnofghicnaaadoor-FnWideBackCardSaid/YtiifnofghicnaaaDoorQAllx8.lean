/- Printed by the kit's print.py, called for several laws at once: functions as plain Lean, and the walks' contracts. -/
import Derived.Test.YtiifnofghicnaaaDoorQAllx0
import Derived.Test.YtiifnofghicnaaaDoorQAllx1
import Derived.Test.YtiifnofghicnaaaDoorQAllx4
import Derived.Test.YtiifnofghicnaaaDoorQAllx5
namespace Go.Proofs.YtiifnofghicnaaaDoor.PAll
open Go.RowKit Go.Proofs.YtiifnofghicnaaaDoorW.PrintWords Go.Proofs.YtiifnofghicnaaaDoorW.PrintLast Go.Proofs.YtiifnofghicnaaaDoorW.PrintMore
attribute [local go_sem] max2_int min2_int max_two min_two max_three min_three max_four min_four   -- for this text's walks alone
set_option linter.unusedVariables false
set_option linter.unusedSimpArgs false
/-! ### impl_WideQuoRem: function 32 -/
set_option maxHeartbeats 4000000 in
set_option maxRecDepth 100000 in
theorem WideQuoRem_1 (a b c d r1 r2 r3 r4 : Int) (t : Bool) (p q : Nat) (w : World)
    (hR : Hid (∀ W : World, Below w.heap.size w W → Calls Tryd.prog 64 #[.agg #[.int .u64 a, .int .u64 b], .agg #[.int .u64 c, .int .u64 d]] W fun e W' => ((t = true ∧ e = .returned (.tuple #[(.agg #[.int .u64 r1, .int .u64 r2]), (.agg #[.int .u64 r3, .int .u64 r4])])) ∨ (t = false ∧ ∃ pv, e = .panicked [{ v := .iface 104 pv, recovered := false }])) ∧ Below W.heap.size W W'))
    (hp : w.heap[p]? = some (.cells #[.int .u64 a, .int .u64 b] 24 (0, 0))) (hq : w.heap[q]? = some (.cells #[.int .u64 c, .int .u64 d] 24 (0, 0))) :
    Calls Tryd.prog 63 #[.pointer (some ⟨p, 0, none⟩), .pointer (some ⟨q, 0, none⟩)] w fun e w' => ((t = true ∧ e = .returned (.agg #[.int .u64 r1, .int .u64 r2, .int .u64 r3, .int .u64 r4])) ∨ (t = false ∧ ∃ pv, e = .panicked [{ v := .iface 104 pv, recovered := false }])) ∧ Below w.heap.size w w' := by
  go_enter Tryd.func63, Tryd.ntmps63
  go_wp2_with fail
  obtain ⟨y1, y2, y3⟩ := q_box w (.cells #[.int .u64 0, .int .u64 0, .int .u64 0, .int .u64 0] 75)
  have k1 := blk_alloc hp (.cells #[.int .u64 0, .int .u64 0, .int .u64 0, .int .u64 0] 75)
  have k2 := blk_alloc hq (.cells #[.int .u64 0, .int .u64 0, .int .u64 0, .int .u64 0] 75)
  have HB2 := Lib.hid y2
  clear y2 y3 hp hq
  generalize hg : w.heap.size = g at y1 ⊢
  generalize w.alloc (.cells #[.int .u64 0, .int .u64 0, .int .u64 0, .int .u64 0] 75) = W00 at k1 k2 y1 HB2 ⊢
  refine start_ (n := 12) (S := fun w' => w'.cell? ⟨p, 0, none⟩ = some (.int .u64 a) ∧ w'.cell? ⟨p, 1, none⟩ = some (.int .u64 b) ∧ w'.cell? ⟨q, 0, none⟩ = some (.int .u64 c) ∧ w'.cell? ⟨q, 1, none⟩ = some (.int .u64 d)) (ds := []) #[false, false, false, false, false, false, false, false, false, false, false, false] (by kernel_rfl) rfl rfl ⟨(blk_cell k1 0).trans rfl, (blk_cell k1 1).trans rfl, (blk_cell k2 0).trans rfl, (blk_cell k2 1).trans rfl⟩ (fun hHeld => ?_)
  have z1 := blk_drew k1
  have z2 := blk_drew k2
  have zg := blk_drew y1
  have B0 : Below w.heap.size w W00.drew := HB2.out.drew
  clear k1 k2 y1 HB2
  generalize W00.drew = W0 at z1 z2 zg B0 hHeld ⊢
  have BW := Below.refl W0.heap.size W0
  refine take_ (i := 0) (N := some 6) (v := ?_) (a' := ?_) #[true, false, false, false, false, false, false, false, false, false, false, false] rfl rfl (by kernel_rfl) (fun _ _ _ h => h) (Or.inl ⟨by rfl, ?_⟩) hHeld ?_ ?_
  rotate_left
  · rintro w' ⟨s0, s1, s2, s3⟩
    go_simp
    with_reducible rfl
  rotate_left
  · simp only [Act.put, List.setIfInBounds_toArray, List.set_cons_zero, List.set_cons_succ, i64_w, i32_w]
    rfl
  refine take_ (i := 2) (N := some 8) (v := ?_) (a' := ?_) #[true, false, true, false, false, false, false, false, false, false, false, false] rfl rfl (by kernel_rfl) (fun _ _ _ h => h) (Or.inl ⟨by rfl, ?_⟩) hHeld ?_ ?_
  rotate_left
  · rintro w' ⟨s0, s1, s2, s3⟩
    go_simp
    with_reducible rfl
  rotate_left
  · simp only [Act.put, List.setIfInBounds_toArray, List.set_cons_zero, List.set_cons_succ, i64_w, i32_w]
    rfl
  refine join_ (σ := Nat × Nat) 2 #[true, true, true, true, true, true, true, true, true, true, false, false] (fun s => [(7, (.agg #[.int .u64 a, .int .u64 b])), (9, (.agg #[.int .u64 c, .int .u64 d])), (10, (.tuple #[(.agg #[.int .u64 r1, .int .u64 r2]), (.agg #[.int .u64 r3, .int .u64 r4])])), (5, (.tuple #[(.agg #[.int .u64 r1, .int .u64 r2]), (.agg #[.int .u64 r3, .int .u64 r4])])), (11, (.agg #[.int .u64 r1, .int .u64 r2])), (12, (.agg #[.int .u64 r3, .int .u64 r4])), (3, .pointer (some ⟨s.1, 0, none⟩)), (4, .pointer (some ⟨s.2, 0, none⟩))]) (fun s w' => Below W0.heap.size W0 w' ∧ t = true ∧ W0.heap.size ≤ s.1 ∧ w'.heap[s.1]? = some (.cells #[.int .u64 0, .int .u64 0] 65 (0, 0)) ∧ W0.heap.size ≤ s.2 ∧ w'.heap[s.2]? = some (.cells #[.int .u64 0, .int .u64 0] 65 (0, 0)) ∧ s.1 ≠ s.2) ?_ ?_
  rotate_left
  · intro hJ1_3_4_8_9
    refine join_ (σ := Nat × Nat) 3 #[true, true, true, true, true, true, true, true, true, false, false, false] (fun s => [(7, (.agg #[.int .u64 a, .int .u64 b])), (9, (.agg #[.int .u64 c, .int .u64 d])), (10, (.tuple #[(.agg #[.int .u64 r1, .int .u64 r2]), (.agg #[.int .u64 r3, .int .u64 r4])])), (5, (.tuple #[(.agg #[.int .u64 r1, .int .u64 r2]), (.agg #[.int .u64 r3, .int .u64 r4])])), (11, (.agg #[.int .u64 r1, .int .u64 r2])), (12, (.agg #[.int .u64 r3, .int .u64 r4])), (3, .pointer (some ⟨s.1, 0, none⟩))]) (fun s w' => Below W0.heap.size W0 w' ∧ t = true ∧ W0.heap.size ≤ s.1 ∧ w'.heap[s.1]? = some (.cells #[.int .u64 0, .int .u64 0] 65 (0, 0))) ?_ ?_
    rotate_left
    · intro hJ1_3_4_8
      refine join_ (σ := Nat × Nat) 3 #[true, true, true, true, true, true, true, true, false, true, false, false] (fun s => [(7, (.agg #[.int .u64 a, .int .u64 b])), (9, (.agg #[.int .u64 c, .int .u64 d])), (10, (.tuple #[(.agg #[.int .u64 r1, .int .u64 r2]), (.agg #[.int .u64 r3, .int .u64 r4])])), (5, (.tuple #[(.agg #[.int .u64 r1, .int .u64 r2]), (.agg #[.int .u64 r3, .int .u64 r4])])), (11, (.agg #[.int .u64 r1, .int .u64 r2])), (12, (.agg #[.int .u64 r3, .int .u64 r4])), (4, .pointer (some ⟨s.2, 0, none⟩))]) (fun s w' => Below W0.heap.size W0 w' ∧ t = true ∧ W0.heap.size ≤ s.2 ∧ w'.heap[s.2]? = some (.cells #[.int .u64 0, .int .u64 0] 65 (0, 0))) ?_ ?_
      rotate_left
      · intro hJ1_3_4_9
        refine join_ (σ := Nat × Nat) 6 #[true, true, true, true, false, false, false, false, true, true, false, false] (fun s => [(7, (.agg #[.int .u64 a, .int .u64 b])), (9, (.agg #[.int .u64 c, .int .u64 d])), (3, .pointer (some ⟨s.1, 0, none⟩)), (4, .pointer (some ⟨s.2, 0, none⟩))]) (fun s w' => Below W0.heap.size W0 w' ∧ W0.heap.size ≤ s.1 ∧ w'.heap[s.1]? = some (.cells #[.int .u64 0, .int .u64 0] 65 (0, 0)) ∧ W0.heap.size ≤ s.2 ∧ w'.heap[s.2]? = some (.cells #[.int .u64 0, .int .u64 0] 65 (0, 0)) ∧ s.1 ≠ s.2) ?_ ?_
        rotate_left
        · intro hJ1_3_8_9
          refine join_ (σ := Nat × Nat) 4 #[true, true, true, true, true, true, true, true, false, false, false, false] (fun s => [(7, (.agg #[.int .u64 a, .int .u64 b])), (9, (.agg #[.int .u64 c, .int .u64 d])), (10, (.tuple #[(.agg #[.int .u64 r1, .int .u64 r2]), (.agg #[.int .u64 r3, .int .u64 r4])])), (5, (.tuple #[(.agg #[.int .u64 r1, .int .u64 r2]), (.agg #[.int .u64 r3, .int .u64 r4])])), (11, (.agg #[.int .u64 r1, .int .u64 r2])), (12, (.agg #[.int .u64 r3, .int .u64 r4]))]) (fun s w' => Below W0.heap.size W0 w' ∧ t = true) ?_ ?_
          rotate_left
          · intro hJ1_3_4
            refine join_ (σ := Nat × Nat) 7 #[true, true, true, true, false, false, false, false, true, false, false, false] (fun s => [(7, (.agg #[.int .u64 a, .int .u64 b])), (9, (.agg #[.int .u64 c, .int .u64 d])), (3, .pointer (some ⟨s.1, 0, none⟩))]) (fun s w' => Below W0.heap.size W0 w' ∧ W0.heap.size ≤ s.1 ∧ w'.heap[s.1]? = some (.cells #[.int .u64 0, .int .u64 0] 65 (0, 0))) ?_ ?_
            rotate_left
            · intro hJ1_3_8
              refine join_ (σ := Nat × Nat) 7 #[true, true, true, true, false, false, false, false, false, true, false, false] (fun s => [(7, (.agg #[.int .u64 a, .int .u64 b])), (9, (.agg #[.int .u64 c, .int .u64 d])), (4, .pointer (some ⟨s.2, 0, none⟩))]) (fun s w' => Below W0.heap.size W0 w' ∧ W0.heap.size ≤ s.2 ∧ w'.heap[s.2]? = some (.cells #[.int .u64 0, .int .u64 0] 65 (0, 0))) ?_ ?_
              rotate_left
              · intro hJ1_3_9
                refine join_ (σ := Nat × Nat) 7 #[true, true, true, false, false, false, false, false, true, true, false, false] (fun s => [(7, (.agg #[.int .u64 a, .int .u64 b])), (3, .pointer (some ⟨s.1, 0, none⟩)), (4, .pointer (some ⟨s.2, 0, none⟩))]) (fun s w' => Below W0.heap.size W0 w' ∧ W0.heap.size ≤ s.1 ∧ w'.heap[s.1]? = some (.cells #[.int .u64 0, .int .u64 0] 65 (0, 0)) ∧ W0.heap.size ≤ s.2 ∧ w'.heap[s.2]? = some (.cells #[.int .u64 0, .int .u64 0] 65 (0, 0)) ∧ s.1 ≠ s.2) ?_ ?_
                rotate_left
                · intro hJ1_8_9
                  refine join_ (σ := Nat × Nat) 8 #[true, true, true, true, false, false, false, false, false, false, false, false] (fun s => [(7, (.agg #[.int .u64 a, .int .u64 b])), (9, (.agg #[.int .u64 c, .int .u64 d]))]) (fun s w' => Below W0.heap.size W0 w') ?_ ?_
                  rotate_left
                  · intro hJ1_3
                    refine join_ (σ := Nat × Nat) 8 #[true, true, true, false, false, false, false, false, true, false, false, false] (fun s => [(7, (.agg #[.int .u64 a, .int .u64 b])), (3, .pointer (some ⟨s.1, 0, none⟩))]) (fun s w' => Below W0.heap.size W0 w' ∧ W0.heap.size ≤ s.1 ∧ w'.heap[s.1]? = some (.cells #[.int .u64 0, .int .u64 0] 65 (0, 0))) ?_ ?_
                    rotate_left
                    · intro hJ1_8
                      refine join_ (σ := Nat × Nat) 8 #[true, true, true, false, false, false, false, false, false, true, false, false] (fun s => [(7, (.agg #[.int .u64 a, .int .u64 b])), (4, .pointer (some ⟨s.2, 0, none⟩))]) (fun s w' => Below W0.heap.size W0 w' ∧ W0.heap.size ≤ s.2 ∧ w'.heap[s.2]? = some (.cells #[.int .u64 0, .int .u64 0] 65 (0, 0))) ?_ ?_
                      rotate_left
                      · intro hJ1_9
                        refine join_ (σ := Nat × Nat) 8 #[true, false, true, false, false, false, false, false, true, true, false, false] (fun s => [(3, .pointer (some ⟨s.1, 0, none⟩)), (4, .pointer (some ⟨s.2, 0, none⟩))]) (fun s w' => Below W0.heap.size W0 w' ∧ W0.heap.size ≤ s.1 ∧ w'.heap[s.1]? = some (.cells #[.int .u64 0, .int .u64 0] 65 (0, 0)) ∧ W0.heap.size ≤ s.2 ∧ w'.heap[s.2]? = some (.cells #[.int .u64 0, .int .u64 0] 65 (0, 0)) ∧ s.1 ≠ s.2) ?_ ?_
                        rotate_left
                        · intro hJ8_9
                          refine join_ (σ := Nat × Nat) 9 #[true, true, true, false, false, false, false, false, false, false, false, false] (fun s => [(7, (.agg #[.int .u64 a, .int .u64 b]))]) (fun s w' => Below W0.heap.size W0 w') ?_ ?_
                          rotate_left
                          · intro hJ1
                            refine join_ (σ := Nat × Nat) 9 #[true, false, true, false, false, false, false, false, true, false, false, false] (fun s => [(3, .pointer (some ⟨s.1, 0, none⟩))]) (fun s w' => Below W0.heap.size W0 w' ∧ W0.heap.size ≤ s.1 ∧ w'.heap[s.1]? = some (.cells #[.int .u64 0, .int .u64 0] 65 (0, 0))) ?_ ?_
                            rotate_left
                            · intro hJ8
                              refine join_ (σ := Nat × Nat) 9 #[true, false, true, false, false, false, false, false, false, true, false, false] (fun s => [(4, .pointer (some ⟨s.2, 0, none⟩))]) (fun s w' => Below W0.heap.size W0 w' ∧ W0.heap.size ≤ s.2 ∧ w'.heap[s.2]? = some (.cells #[.int .u64 0, .int .u64 0] 65 (0, 0))) ?_ ?_
                              rotate_left
                              · intro hJ9
                                refine three_ (i := 1) (j := 8) (k := 9) (Ni := some 7) (Nj := some 3) (Nk := some 4) #[true, true, true, false, false, false, false, false, false, false, false, false] #[true, false, true, false, false, false, false, false, true, false, false, false] #[true, false, true, false, false, false, false, false, false, true, false, false] rfl rfl rfl rfl rfl rfl (by kernel_rfl) (by decide) (by decide) (by decide) (fun K hK => ?_) (fun K hK => ?_) (fun K hK => ?_)
                                · skip
                                  refine goes_ Tryd.func46 (by kernel_rfl) rfl #[(.agg #[.int .u64 a, .int .u64 b])] (by rfl) rfl rfl (by (try simp only [List.map_toArray, List.map_cons, List.map_nil]); first | done | rfl) ?_
                                  refine (impl_Wide_u.calls a b a b _ rfl).mono ?_
                                  rintro e W9 ⟨rfl, hb⟩
                                  refine ⟨_, rfl, ?_⟩
                                  replace BW := q_on BW BW.size hb
                                  clear hb
                                  refine hK.out _ _ ⟨(blk_cell (q_blk z1 BW) 0).trans rfl, (blk_cell (q_blk z1 BW) 1).trans rfl, (blk_cell (q_blk z2 BW) 0).trans rfl, (blk_cell (q_blk z2 BW) 1).trans rfl⟩ (fun hHeld => ?_)
                                  clear hK K
                                  refine norm_ (a' := ?_) ?_ ?_
                                  rotate_left
                                  · show Act.put _ (some 7) _ = _
                                    simp only [Act.put, List.setIfInBounds_toArray, List.set_cons_zero, List.set_cons_succ, i64_w, i32_w]
                                    rfl
                                  exact norm_ (by first | (simp only [putAll, Act.put, List.setIfInBounds_toArray, List.set_cons_zero, List.set_cons_succ]; done) | (simp only [putAll, Act.put, List.setIfInBounds_toArray, List.set_cons_zero, List.set_cons_succ]; rfl)) (hJ1 ⟨0, 0⟩ _ BW)
                                · skip
                                  refine value_ (w1 := ?_) (v := ?_) (by rfl) rfl ?_ ?_
                                  rotate_left 2
                                  · go_simp
                                    constructor
                                    · rfl
                                    · rfl
                                  refine hK.out _ _ ⟨(blk_cell (blk_alloc (q_blk z1 BW) _) 0).trans rfl, (blk_cell (blk_alloc (q_blk z1 BW) _) 1).trans rfl, (blk_cell (blk_alloc (q_blk z2 BW) _) 0).trans rfl, (blk_cell (blk_alloc (q_blk z2 BW) _) 1).trans rfl⟩ (fun hHeld => ?_)
                                  clear hK K
                                  refine norm_ (a' := ?_) ?_ ?_
                                  rotate_left
                                  · show Act.put _ (some 3) _ = _
                                    simp only [Act.put, List.setIfInBounds_toArray, List.set_cons_zero, List.set_cons_succ, i64_w, i32_w]
                                    rfl
                                  exact norm_ (by first | (simp only [putAll, Act.put, List.setIfInBounds_toArray, List.set_cons_zero, List.set_cons_succ]; done) | (simp only [putAll, Act.put, List.setIfInBounds_toArray, List.set_cons_zero, List.set_cons_succ]; rfl)) (hJ8 ⟨_, 0⟩ _ ⟨(BW.trans (((Below.refl _ _).alloc (Nat.le_refl _) _).mono BW.size)), BW.size, (MapKept.heap_alloc _ _).1⟩)
                                · skip
                                  refine value_ (w1 := ?_) (v := ?_) (by rfl) rfl ?_ ?_
                                  rotate_left 2
                                  · go_simp
                                    constructor
                                    · rfl
                                    · rfl
                                  refine hK.out _ _ ⟨(blk_cell (blk_alloc (q_blk z1 BW) _) 0).trans rfl, (blk_cell (blk_alloc (q_blk z1 BW) _) 1).trans rfl, (blk_cell (blk_alloc (q_blk z2 BW) _) 0).trans rfl, (blk_cell (blk_alloc (q_blk z2 BW) _) 1).trans rfl⟩ (fun hHeld => ?_)
                                  clear hK K
                                  refine norm_ (a' := ?_) ?_ ?_
                                  rotate_left
                                  · show Act.put _ (some 4) _ = _
                                    simp only [Act.put, List.setIfInBounds_toArray, List.set_cons_zero, List.set_cons_succ, i64_w, i32_w]
                                    rfl
                                  exact norm_ (by first | (simp only [putAll, Act.put, List.setIfInBounds_toArray, List.set_cons_zero, List.set_cons_succ]; done) | (simp only [putAll, Act.put, List.setIfInBounds_toArray, List.set_cons_zero, List.set_cons_succ]; rfl)) (hJ9 ⟨0, _⟩ _ ⟨(BW.trans (((Below.refl _ _).alloc (Nat.le_refl _) _).mono BW.size)), BW.size, (MapKept.heap_alloc _ _).1⟩)
                              · skip
                                rintro ⟨g8, g9⟩ W ⟨BW, l9, h9⟩
                                replace BW : Below W0.heap.size W0 W := BW
                                replace h9 : W.heap[g9]? = some (.cells #[.int .u64 0, .int .u64 0] 65 (0, 0)) := h9
                                replace l9 : W0.heap.size ≤ g9 := l9
                                have hHeld : W.cell? ⟨p, 0, none⟩ = some (.int .u64 a) ∧ W.cell? ⟨p, 1, none⟩ = some (.int .u64 b) ∧ W.cell? ⟨q, 0, none⟩ = some (.int .u64 c) ∧ W.cell? ⟨q, 1, none⟩ = some (.int .u64 d) := ⟨(blk_cell (q_blk z1 BW) 0).trans rfl, (blk_cell (q_blk z1 BW) 1).trans rfl, (blk_cell (q_blk z2 BW) 0).trans rfl, (blk_cell (q_blk z2 BW) 1).trans rfl⟩
                                refine norm_ (a' := ?_) ?_ ?_
                                rotate_left
                                · simp only [putAll, Act.put, List.setIfInBounds_toArray, List.set_cons_zero, List.set_cons_succ]
                                  rfl
                                refine two_ (i := 1) (j := 8) (Ni := some 7) (Nj := some 3) #[true, true, true, false, false, false, false, false, false, true, false, false] #[true, false, true, false, false, false, false, false, true, true, false, false] rfl rfl rfl rfl (by kernel_rfl) (by decide) (by decide) (fun K hK => ?_) (fun K hK => ?_)
                                · skip
                                  refine goes_ Tryd.func46 (by kernel_rfl) rfl #[(.agg #[.int .u64 a, .int .u64 b])] (by rfl) rfl rfl (by (try simp only [List.map_toArray, List.map_cons, List.map_nil]); first | done | rfl) ?_
                                  refine (impl_Wide_u.calls a b a b _ rfl).mono ?_
                                  rintro e W9 ⟨rfl, hb⟩
                                  refine ⟨_, rfl, ?_⟩
                                  replace BW := q_on BW BW.size hb
                                  replace h9 := q_blk h9 hb
                                  clear hb
                                  refine hK.out _ _ ⟨(blk_cell (q_blk z1 BW) 0).trans rfl, (blk_cell (q_blk z1 BW) 1).trans rfl, (blk_cell (q_blk z2 BW) 0).trans rfl, (blk_cell (q_blk z2 BW) 1).trans rfl⟩ (fun hHeld => ?_)
                                  clear hK K
                                  refine norm_ (a' := ?_) ?_ ?_
                                  rotate_left
                                  · show Act.put _ (some 7) _ = _
                                    simp only [Act.put, List.setIfInBounds_toArray, List.set_cons_zero, List.set_cons_succ, i64_w, i32_w]
                                    rfl
                                  exact norm_ (by first | (simp only [putAll, Act.put, List.setIfInBounds_toArray, List.set_cons_zero, List.set_cons_succ]; done) | (simp only [putAll, Act.put, List.setIfInBounds_toArray, List.set_cons_zero, List.set_cons_succ]; rfl)) (hJ1_9 ⟨0, g9⟩ _ ⟨BW, l9, h9⟩)
                                · skip
                                  refine value_ (w1 := ?_) (v := ?_) (by rfl) rfl ?_ ?_
                                  rotate_left 2
                                  · go_simp
                                    constructor
                                    · rfl
                                    · rfl
                                  refine hK.out _ _ ⟨(blk_cell (blk_alloc (q_blk z1 BW) _) 0).trans rfl, (blk_cell (blk_alloc (q_blk z1 BW) _) 1).trans rfl, (blk_cell (blk_alloc (q_blk z2 BW) _) 0).trans rfl, (blk_cell (blk_alloc (q_blk z2 BW) _) 1).trans rfl⟩ (fun hHeld => ?_)
                                  clear hK K
                                  refine norm_ (a' := ?_) ?_ ?_
                                  rotate_left
                                  · show Act.put _ (some 3) _ = _
                                    simp only [Act.put, List.setIfInBounds_toArray, List.set_cons_zero, List.set_cons_succ, i64_w, i32_w]
                                    rfl
                                  exact norm_ (by first | (simp only [putAll, Act.put, List.setIfInBounds_toArray, List.set_cons_zero, List.set_cons_succ]; done) | (simp only [putAll, Act.put, List.setIfInBounds_toArray, List.set_cons_zero, List.set_cons_succ]; rfl)) (hJ8_9 ⟨_, g9⟩ _ ⟨(BW.trans (((Below.refl _ _).alloc (Nat.le_refl _) _).mono BW.size)), BW.size, (MapKept.heap_alloc _ _).1, l9, blk_alloc h9 _, (Nat.ne_of_gt (blk_lt h9))⟩)
                            · skip
                              rintro ⟨g8, g9⟩ W ⟨BW, l8, h8⟩
                              replace BW : Below W0.heap.size W0 W := BW
                              replace h8 : W.heap[g8]? = some (.cells #[.int .u64 0, .int .u64 0] 65 (0, 0)) := h8
                              replace l8 : W0.heap.size ≤ g8 := l8
                              have hHeld : W.cell? ⟨p, 0, none⟩ = some (.int .u64 a) ∧ W.cell? ⟨p, 1, none⟩ = some (.int .u64 b) ∧ W.cell? ⟨q, 0, none⟩ = some (.int .u64 c) ∧ W.cell? ⟨q, 1, none⟩ = some (.int .u64 d) := ⟨(blk_cell (q_blk z1 BW) 0).trans rfl, (blk_cell (q_blk z1 BW) 1).trans rfl, (blk_cell (q_blk z2 BW) 0).trans rfl, (blk_cell (q_blk z2 BW) 1).trans rfl⟩
                              refine norm_ (a' := ?_) ?_ ?_
                              rotate_left
                              · simp only [putAll, Act.put, List.setIfInBounds_toArray, List.set_cons_zero, List.set_cons_succ]
                                rfl
                              refine two_ (i := 1) (j := 9) (Ni := some 7) (Nj := some 4) #[true, true, true, false, false, false, false, false, true, false, false, false] #[true, false, true, false, false, false, false, false, true, true, false, false] rfl rfl rfl rfl (by kernel_rfl) (by decide) (by decide) (fun K hK => ?_) (fun K hK => ?_)
                              · skip
                                refine goes_ Tryd.func46 (by kernel_rfl) rfl #[(.agg #[.int .u64 a, .int .u64 b])] (by rfl) rfl rfl (by (try simp only [List.map_toArray, List.map_cons, List.map_nil]); first | done | rfl) ?_
                                refine (impl_Wide_u.calls a b a b _ rfl).mono ?_
                                rintro e W9 ⟨rfl, hb⟩
                                refine ⟨_, rfl, ?_⟩
                                replace BW := q_on BW BW.size hb
                                replace h8 := q_blk h8 hb
                                clear hb
                                refine hK.out _ _ ⟨(blk_cell (q_blk z1 BW) 0).trans rfl, (blk_cell (q_blk z1 BW) 1).trans rfl, (blk_cell (q_blk z2 BW) 0).trans rfl, (blk_cell (q_blk z2 BW) 1).trans rfl⟩ (fun hHeld => ?_)
                                clear hK K
                                refine norm_ (a' := ?_) ?_ ?_
                                rotate_left
                                · show Act.put _ (some 7) _ = _
                                  simp only [Act.put, List.setIfInBounds_toArray, List.set_cons_zero, List.set_cons_succ, i64_w, i32_w]
                                  rfl
                                exact norm_ (by first | (simp only [putAll, Act.put, List.setIfInBounds_toArray, List.set_cons_zero, List.set_cons_succ]; done) | (simp only [putAll, Act.put, List.setIfInBounds_toArray, List.set_cons_zero, List.set_cons_succ]; rfl)) (hJ1_8 ⟨g8, 0⟩ _ ⟨BW, l8, h8⟩)
                              · skip
                                refine value_ (w1 := ?_) (v := ?_) (by rfl) rfl ?_ ?_
                                rotate_left 2
                                · go_simp
                                  constructor
                                  · rfl
                                  · rfl
                                refine hK.out _ _ ⟨(blk_cell (blk_alloc (q_blk z1 BW) _) 0).trans rfl, (blk_cell (blk_alloc (q_blk z1 BW) _) 1).trans rfl, (blk_cell (blk_alloc (q_blk z2 BW) _) 0).trans rfl, (blk_cell (blk_alloc (q_blk z2 BW) _) 1).trans rfl⟩ (fun hHeld => ?_)
                                clear hK K
                                refine norm_ (a' := ?_) ?_ ?_
                                rotate_left
                                · show Act.put _ (some 4) _ = _
                                  simp only [Act.put, List.setIfInBounds_toArray, List.set_cons_zero, List.set_cons_succ, i64_w, i32_w]
                                  rfl
                                exact norm_ (by first | (simp only [putAll, Act.put, List.setIfInBounds_toArray, List.set_cons_zero, List.set_cons_succ]; done) | (simp only [putAll, Act.put, List.setIfInBounds_toArray, List.set_cons_zero, List.set_cons_succ]; rfl)) (hJ8_9 ⟨g8, _⟩ _ ⟨(BW.trans (((Below.refl _ _).alloc (Nat.le_refl _) _).mono BW.size)), l8, blk_alloc h8 _, BW.size, (MapKept.heap_alloc _ _).1, (Nat.ne_of_lt (blk_lt h8))⟩)
                          · skip
                            rintro ⟨g8, g9⟩ W BW
                            replace BW : Below W0.heap.size W0 W := BW
                            have hHeld : W.cell? ⟨p, 0, none⟩ = some (.int .u64 a) ∧ W.cell? ⟨p, 1, none⟩ = some (.int .u64 b) ∧ W.cell? ⟨q, 0, none⟩ = some (.int .u64 c) ∧ W.cell? ⟨q, 1, none⟩ = some (.int .u64 d) := ⟨(blk_cell (q_blk z1 BW) 0).trans rfl, (blk_cell (q_blk z1 BW) 1).trans rfl, (blk_cell (q_blk z2 BW) 0).trans rfl, (blk_cell (q_blk z2 BW) 1).trans rfl⟩
                            refine norm_ (a' := ?_) ?_ ?_
                            rotate_left
                            · simp only [putAll, Act.put, List.setIfInBounds_toArray, List.set_cons_zero, List.set_cons_succ]
                              rfl
                            refine three_ (i := 3) (j := 8) (k := 9) (Ni := some 9) (Nj := some 3) (Nk := some 4) #[true, true, true, true, false, false, false, false, false, false, false, false] #[true, true, true, false, false, false, false, false, true, false, false, false] #[true, true, true, false, false, false, false, false, false, true, false, false] rfl rfl rfl rfl rfl rfl (by kernel_rfl) (by decide) (by decide) (by decide) (fun K hK => ?_) (fun K hK => ?_) (fun K hK => ?_)
                            · skip
                              refine goes_ Tryd.func46 (by kernel_rfl) rfl #[(.agg #[.int .u64 c, .int .u64 d])] (by rfl) rfl rfl (by (try simp only [List.map_toArray, List.map_cons, List.map_nil]); first | done | rfl) ?_
                              refine (impl_Wide_u.calls c d c d _ rfl).mono ?_
                              rintro e W9 ⟨rfl, hb⟩
                              refine ⟨_, rfl, ?_⟩
                              replace BW := q_on BW BW.size hb
                              clear hb
                              refine hK.out _ _ ⟨(blk_cell (q_blk z1 BW) 0).trans rfl, (blk_cell (q_blk z1 BW) 1).trans rfl, (blk_cell (q_blk z2 BW) 0).trans rfl, (blk_cell (q_blk z2 BW) 1).trans rfl⟩ (fun hHeld => ?_)
                              clear hK K
                              refine norm_ (a' := ?_) ?_ ?_
                              rotate_left
                              · show Act.put _ (some 9) _ = _
                                simp only [Act.put, List.setIfInBounds_toArray, List.set_cons_zero, List.set_cons_succ, i64_w, i32_w]
                                rfl
                              exact norm_ (by first | (simp only [putAll, Act.put, List.setIfInBounds_toArray, List.set_cons_zero, List.set_cons_succ]; done) | (simp only [putAll, Act.put, List.setIfInBounds_toArray, List.set_cons_zero, List.set_cons_succ]; rfl)) (hJ1_3 ⟨0, 0⟩ _ BW)
                            · skip
                              refine value_ (w1 := ?_) (v := ?_) (by rfl) rfl ?_ ?_
                              rotate_left 2
                              · go_simp
                                constructor
                                · rfl
                                · rfl
                              refine hK.out _ _ ⟨(blk_cell (blk_alloc (q_blk z1 BW) _) 0).trans rfl, (blk_cell (blk_alloc (q_blk z1 BW) _) 1).trans rfl, (blk_cell (blk_alloc (q_blk z2 BW) _) 0).trans rfl, (blk_cell (blk_alloc (q_blk z2 BW) _) 1).trans rfl⟩ (fun hHeld => ?_)
                              clear hK K
                              refine norm_ (a' := ?_) ?_ ?_
                              rotate_left
                              · show Act.put _ (some 3) _ = _
                                simp only [Act.put, List.setIfInBounds_toArray, List.set_cons_zero, List.set_cons_succ, i64_w, i32_w]
                                rfl
                              exact norm_ (by first | (simp only [putAll, Act.put, List.setIfInBounds_toArray, List.set_cons_zero, List.set_cons_succ]; done) | (simp only [putAll, Act.put, List.setIfInBounds_toArray, List.set_cons_zero, List.set_cons_succ]; rfl)) (hJ1_8 ⟨_, 0⟩ _ ⟨(BW.trans (((Below.refl _ _).alloc (Nat.le_refl _) _).mono BW.size)), BW.size, (MapKept.heap_alloc _ _).1⟩)
                            · skip
                              refine value_ (w1 := ?_) (v := ?_) (by rfl) rfl ?_ ?_
                              rotate_left 2
                              · go_simp
                                constructor
                                · rfl
                                · rfl
                              refine hK.out _ _ ⟨(blk_cell (blk_alloc (q_blk z1 BW) _) 0).trans rfl, (blk_cell (blk_alloc (q_blk z1 BW) _) 1).trans rfl, (blk_cell (blk_alloc (q_blk z2 BW) _) 0).trans rfl, (blk_cell (blk_alloc (q_blk z2 BW) _) 1).trans rfl⟩ (fun hHeld => ?_)
                              clear hK K
                              refine norm_ (a' := ?_) ?_ ?_
                              rotate_left
                              · show Act.put _ (some 4) _ = _
                                simp only [Act.put, List.setIfInBounds_toArray, List.set_cons_zero, List.set_cons_succ, i64_w, i32_w]
                                rfl
                              exact norm_ (by first | (simp only [putAll, Act.put, List.setIfInBounds_toArray, List.set_cons_zero, List.set_cons_succ]; done) | (simp only [putAll, Act.put, List.setIfInBounds_toArray, List.set_cons_zero, List.set_cons_succ]; rfl)) (hJ1_9 ⟨0, _⟩ _ ⟨(BW.trans (((Below.refl _ _).alloc (Nat.le_refl _) _).mono BW.size)), BW.size, (MapKept.heap_alloc _ _).1⟩)
                        · skip
                          rintro ⟨g8, g9⟩ W ⟨BW, l8, h8, l9, h9, nn⟩
                          replace BW : Below W0.heap.size W0 W := BW
                          replace h8 : W.heap[g8]? = some (.cells #[.int .u64 0, .int .u64 0] 65 (0, 0)) := h8
                          replace l8 : W0.heap.size ≤ g8 := l8
                          replace h9 : W.heap[g9]? = some (.cells #[.int .u64 0, .int .u64 0] 65 (0, 0)) := h9
                          replace l9 : W0.heap.size ≤ g9 := l9
                          have hHeld : W.cell? ⟨p, 0, none⟩ = some (.int .u64 a) ∧ W.cell? ⟨p, 1, none⟩ = some (.int .u64 b) ∧ W.cell? ⟨q, 0, none⟩ = some (.int .u64 c) ∧ W.cell? ⟨q, 1, none⟩ = some (.int .u64 d) := ⟨(blk_cell (q_blk z1 BW) 0).trans rfl, (blk_cell (q_blk z1 BW) 1).trans rfl, (blk_cell (q_blk z2 BW) 0).trans rfl, (blk_cell (q_blk z2 BW) 1).trans rfl⟩
                          refine norm_ (a' := ?_) ?_ ?_
                          rotate_left
                          · simp only [putAll, Act.put, List.setIfInBounds_toArray, List.set_cons_zero, List.set_cons_succ]
                            rfl
                          refine one_ (i := 1) (N := some 7) #[true, true, true, false, false, false, false, false, true, true, false, false] rfl rfl (by kernel_rfl) (by decide) (fun K hK => ?_)
                          refine goes_ Tryd.func46 (by kernel_rfl) rfl #[(.agg #[.int .u64 a, .int .u64 b])] (by rfl) rfl rfl (by (try simp only [List.map_toArray, List.map_cons, List.map_nil]); first | done | rfl) ?_
                          refine (impl_Wide_u.calls a b a b _ rfl).mono ?_
                          rintro e W9 ⟨rfl, hb⟩
                          refine ⟨_, rfl, ?_⟩
                          replace BW := q_on BW BW.size hb
                          replace h8 := q_blk h8 hb
                          replace h9 := q_blk h9 hb
                          clear hb
                          refine hK.out _ _ ⟨(blk_cell (q_blk z1 BW) 0).trans rfl, (blk_cell (q_blk z1 BW) 1).trans rfl, (blk_cell (q_blk z2 BW) 0).trans rfl, (blk_cell (q_blk z2 BW) 1).trans rfl⟩ (fun hHeld => ?_)
                          clear hK K
                          refine norm_ (a' := ?_) ?_ ?_
                          rotate_left
                          · show Act.put _ (some 7) _ = _
                            simp only [Act.put, List.setIfInBounds_toArray, List.set_cons_zero, List.set_cons_succ, i64_w, i32_w]
                            rfl
                          exact norm_ (by first | (simp only [putAll, Act.put, List.setIfInBounds_toArray, List.set_cons_zero, List.set_cons_succ]; done) | (simp only [putAll, Act.put, List.setIfInBounds_toArray, List.set_cons_zero, List.set_cons_succ]; rfl)) (hJ1_8_9 ⟨g8, g9⟩ _ ⟨BW, l8, h8, l9, h9, nn⟩)
                      · skip
                        rintro ⟨g8, g9⟩ W ⟨BW, l9, h9⟩
                        replace BW : Below W0.heap.size W0 W := BW
                        replace h9 : W.heap[g9]? = some (.cells #[.int .u64 0, .int .u64 0] 65 (0, 0)) := h9
                        replace l9 : W0.heap.size ≤ g9 := l9
                        have hHeld : W.cell? ⟨p, 0, none⟩ = some (.int .u64 a) ∧ W.cell? ⟨p, 1, none⟩ = some (.int .u64 b) ∧ W.cell? ⟨q, 0, none⟩ = some (.int .u64 c) ∧ W.cell? ⟨q, 1, none⟩ = some (.int .u64 d) := ⟨(blk_cell (q_blk z1 BW) 0).trans rfl, (blk_cell (q_blk z1 BW) 1).trans rfl, (blk_cell (q_blk z2 BW) 0).trans rfl, (blk_cell (q_blk z2 BW) 1).trans rfl⟩
                        refine norm_ (a' := ?_) ?_ ?_
                        rotate_left
                        · simp only [putAll, Act.put, List.setIfInBounds_toArray, List.set_cons_zero, List.set_cons_succ]
                          rfl
                        refine two_ (i := 3) (j := 8) (Ni := some 9) (Nj := some 3) #[true, true, true, true, false, false, false, false, false, true, false, false] #[true, true, true, false, false, false, false, false, true, true, false, false] rfl rfl rfl rfl (by kernel_rfl) (by decide) (by decide) (fun K hK => ?_) (fun K hK => ?_)
                        · skip
                          refine goes_ Tryd.func46 (by kernel_rfl) rfl #[(.agg #[.int .u64 c, .int .u64 d])] (by rfl) rfl rfl (by (try simp only [List.map_toArray, List.map_cons, List.map_nil]); first | done | rfl) ?_
                          refine (impl_Wide_u.calls c d c d _ rfl).mono ?_
                          rintro e W9 ⟨rfl, hb⟩
                          refine ⟨_, rfl, ?_⟩
                          replace BW := q_on BW BW.size hb
                          replace h9 := q_blk h9 hb
                          clear hb
                          refine hK.out _ _ ⟨(blk_cell (q_blk z1 BW) 0).trans rfl, (blk_cell (q_blk z1 BW) 1).trans rfl, (blk_cell (q_blk z2 BW) 0).trans rfl, (blk_cell (q_blk z2 BW) 1).trans rfl⟩ (fun hHeld => ?_)
                          clear hK K
                          refine norm_ (a' := ?_) ?_ ?_
                          rotate_left
                          · show Act.put _ (some 9) _ = _
                            simp only [Act.put, List.setIfInBounds_toArray, List.set_cons_zero, List.set_cons_succ, i64_w, i32_w]
                            rfl
                          exact norm_ (by first | (simp only [putAll, Act.put, List.setIfInBounds_toArray, List.set_cons_zero, List.set_cons_succ]; done) | (simp only [putAll, Act.put, List.setIfInBounds_toArray, List.set_cons_zero, List.set_cons_succ]; rfl)) (hJ1_3_9 ⟨0, g9⟩ _ ⟨BW, l9, h9⟩)
                        · skip
                          refine value_ (w1 := ?_) (v := ?_) (by rfl) rfl ?_ ?_
                          rotate_left 2
                          · go_simp
                            constructor
                            · rfl
                            · rfl
                          refine hK.out _ _ ⟨(blk_cell (blk_alloc (q_blk z1 BW) _) 0).trans rfl, (blk_cell (blk_alloc (q_blk z1 BW) _) 1).trans rfl, (blk_cell (blk_alloc (q_blk z2 BW) _) 0).trans rfl, (blk_cell (blk_alloc (q_blk z2 BW) _) 1).trans rfl⟩ (fun hHeld => ?_)
                          clear hK K
                          refine norm_ (a' := ?_) ?_ ?_
                          rotate_left
                          · show Act.put _ (some 3) _ = _
                            simp only [Act.put, List.setIfInBounds_toArray, List.set_cons_zero, List.set_cons_succ, i64_w, i32_w]
                            rfl
                          exact norm_ (by first | (simp only [putAll, Act.put, List.setIfInBounds_toArray, List.set_cons_zero, List.set_cons_succ]; done) | (simp only [putAll, Act.put, List.setIfInBounds_toArray, List.set_cons_zero, List.set_cons_succ]; rfl)) (hJ1_8_9 ⟨_, g9⟩ _ ⟨(BW.trans (((Below.refl _ _).alloc (Nat.le_refl _) _).mono BW.size)), BW.size, (MapKept.heap_alloc _ _).1, l9, blk_alloc h9 _, (Nat.ne_of_gt (blk_lt h9))⟩)
                    · skip
                      rintro ⟨g8, g9⟩ W ⟨BW, l8, h8⟩
                      replace BW : Below W0.heap.size W0 W := BW
                      replace h8 : W.heap[g8]? = some (.cells #[.int .u64 0, .int .u64 0] 65 (0, 0)) := h8
                      replace l8 : W0.heap.size ≤ g8 := l8
                      have hHeld : W.cell? ⟨p, 0, none⟩ = some (.int .u64 a) ∧ W.cell? ⟨p, 1, none⟩ = some (.int .u64 b) ∧ W.cell? ⟨q, 0, none⟩ = some (.int .u64 c) ∧ W.cell? ⟨q, 1, none⟩ = some (.int .u64 d) := ⟨(blk_cell (q_blk z1 BW) 0).trans rfl, (blk_cell (q_blk z1 BW) 1).trans rfl, (blk_cell (q_blk z2 BW) 0).trans rfl, (blk_cell (q_blk z2 BW) 1).trans rfl⟩
                      refine norm_ (a' := ?_) ?_ ?_
                      rotate_left
                      · simp only [putAll, Act.put, List.setIfInBounds_toArray, List.set_cons_zero, List.set_cons_succ]
                        rfl
                      refine two_ (i := 3) (j := 9) (Ni := some 9) (Nj := some 4) #[true, true, true, true, false, false, false, false, true, false, false, false] #[true, true, true, false, false, false, false, false, true, true, false, false] rfl rfl rfl rfl (by kernel_rfl) (by decide) (by decide) (fun K hK => ?_) (fun K hK => ?_)
                      · skip
                        refine goes_ Tryd.func46 (by kernel_rfl) rfl #[(.agg #[.int .u64 c, .int .u64 d])] (by rfl) rfl rfl (by (try simp only [List.map_toArray, List.map_cons, List.map_nil]); first | done | rfl) ?_
                        refine (impl_Wide_u.calls c d c d _ rfl).mono ?_
                        rintro e W9 ⟨rfl, hb⟩
                        refine ⟨_, rfl, ?_⟩
                        replace BW := q_on BW BW.size hb
                        replace h8 := q_blk h8 hb
                        clear hb
                        refine hK.out _ _ ⟨(blk_cell (q_blk z1 BW) 0).trans rfl, (blk_cell (q_blk z1 BW) 1).trans rfl, (blk_cell (q_blk z2 BW) 0).trans rfl, (blk_cell (q_blk z2 BW) 1).trans rfl⟩ (fun hHeld => ?_)
                        clear hK K
                        refine norm_ (a' := ?_) ?_ ?_
                        rotate_left
                        · show Act.put _ (some 9) _ = _
                          simp only [Act.put, List.setIfInBounds_toArray, List.set_cons_zero, List.set_cons_succ, i64_w, i32_w]
                          rfl
                        exact norm_ (by first | (simp only [putAll, Act.put, List.setIfInBounds_toArray, List.set_cons_zero, List.set_cons_succ]; done) | (simp only [putAll, Act.put, List.setIfInBounds_toArray, List.set_cons_zero, List.set_cons_succ]; rfl)) (hJ1_3_8 ⟨g8, 0⟩ _ ⟨BW, l8, h8⟩)
                      · skip
                        refine value_ (w1 := ?_) (v := ?_) (by rfl) rfl ?_ ?_
                        rotate_left 2
                        · go_simp
                          constructor
                          · rfl
                          · rfl
                        refine hK.out _ _ ⟨(blk_cell (blk_alloc (q_blk z1 BW) _) 0).trans rfl, (blk_cell (blk_alloc (q_blk z1 BW) _) 1).trans rfl, (blk_cell (blk_alloc (q_blk z2 BW) _) 0).trans rfl, (blk_cell (blk_alloc (q_blk z2 BW) _) 1).trans rfl⟩ (fun hHeld => ?_)
                        clear hK K
                        refine norm_ (a' := ?_) ?_ ?_
                        rotate_left
                        · show Act.put _ (some 4) _ = _
                          simp only [Act.put, List.setIfInBounds_toArray, List.set_cons_zero, List.set_cons_succ, i64_w, i32_w]
                          rfl
                        exact norm_ (by first | (simp only [putAll, Act.put, List.setIfInBounds_toArray, List.set_cons_zero, List.set_cons_succ]; done) | (simp only [putAll, Act.put, List.setIfInBounds_toArray, List.set_cons_zero, List.set_cons_succ]; rfl)) (hJ1_8_9 ⟨g8, _⟩ _ ⟨(BW.trans (((Below.refl _ _).alloc (Nat.le_refl _) _).mono BW.size)), l8, blk_alloc h8 _, BW.size, (MapKept.heap_alloc _ _).1, (Nat.ne_of_lt (blk_lt h8))⟩)
                  · skip
                    rintro ⟨g8, g9⟩ W BW
                    replace BW : Below W0.heap.size W0 W := BW
                    have hHeld : W.cell? ⟨p, 0, none⟩ = some (.int .u64 a) ∧ W.cell? ⟨p, 1, none⟩ = some (.int .u64 b) ∧ W.cell? ⟨q, 0, none⟩ = some (.int .u64 c) ∧ W.cell? ⟨q, 1, none⟩ = some (.int .u64 d) := ⟨(blk_cell (q_blk z1 BW) 0).trans rfl, (blk_cell (q_blk z1 BW) 1).trans rfl, (blk_cell (q_blk z2 BW) 0).trans rfl, (blk_cell (q_blk z2 BW) 1).trans rfl⟩
                    refine norm_ (a' := ?_) ?_ ?_
                    rotate_left
                    · simp only [putAll, Act.put, List.setIfInBounds_toArray, List.set_cons_zero, List.set_cons_succ]
                      rfl
                    refine three_ (i := 4) (j := 8) (k := 9) (Ni := some 10) (Nj := some 3) (Nk := some 4) #[true, true, true, true, true, false, false, false, false, false, false, false] #[true, true, true, true, false, false, false, false, true, false, false, false] #[true, true, true, true, false, false, false, false, false, true, false, false] rfl rfl rfl rfl rfl rfl (by kernel_rfl) (by decide) (by decide) (by decide) (fun K hK => ?_) (fun K hK => ?_) (fun K hK => ?_)
                    · skip
                      refine rgoes_ Tryd.func64 (by kernel_rfl) rfl #[.agg #[.int .u64 a, .int .u64 b], .agg #[.int .u64 c, .int .u64 d]] (by rfl) rfl rfl (by (try simp only [List.map_toArray, List.map_cons, List.map_nil]); first | done | rfl) ?_
                      refine (hR.out _ (B0.trans (BW.mono B0.size))).mono ?_
                      rintro e W9 ⟨⟨ht, rfl⟩ | ⟨ht, pv, rfl⟩, hb⟩
                      rotate_left
                      · exact Or.inr ⟨_, rfl, rfl, Or.inr ⟨ht, pv, rfl⟩, B0.trans ((q_on BW BW.size hb).mono B0.size)⟩
                      refine Or.inl ⟨_, rfl, ?_⟩
                      replace BW := q_on BW BW.size hb
                      clear hb
                      refine hK.out _ _ ⟨(blk_cell (q_blk z1 BW) 0).trans rfl, (blk_cell (q_blk z1 BW) 1).trans rfl, (blk_cell (q_blk z2 BW) 0).trans rfl, (blk_cell (q_blk z2 BW) 1).trans rfl⟩ (fun hHeld => ?_)
                      clear hK K
                      refine norm_ (a' := ?_) ?_ ?_
                      rotate_left
                      · show Act.put _ (some 10) _ = _
                        simp only [Act.put, List.setIfInBounds_toArray, List.set_cons_zero, List.set_cons_succ, i64_w, i32_w]
                        rfl
                      refine pure_ (i := 5) (N := some 5) (v := ?_) (a' := ?_) #[true, true, true, true, true, true, false, false, false, false, false, false] rfl rfl (by kernel_rfl) (fun _ _ _ h => h) (Or.inl ⟨by rfl, ?_⟩) ?_ ?_
                      rotate_left
                      · intro w'
                        go_simp
                        with_reducible rfl
                      rotate_left
                      · simp only [Act.put, List.setIfInBounds_toArray, List.set_cons_zero, List.set_cons_succ, i64_w, i32_w]
                        rfl
                      refine pure_ (i := 6) (N := some 11) (v := ?_) (a' := ?_) #[true, true, true, true, true, true, true, false, false, false, false, false] rfl rfl (by kernel_rfl) (fun _ _ _ h => h) (Or.inl ⟨by rfl, ?_⟩) ?_ ?_
                      rotate_left
                      · intro w'
                        go_simp
                        with_reducible rfl
                      rotate_left
                      · simp only [Act.put, List.setIfInBounds_toArray, List.set_cons_zero, List.set_cons_succ, i64_w, i32_w]
                        rfl
                      refine pure_ (i := 7) (N := some 12) (v := ?_) (a' := ?_) #[true, true, true, true, true, true, true, true, false, false, false, false] rfl rfl (by kernel_rfl) (fun _ _ _ h => h) (Or.inl ⟨by rfl, ?_⟩) ?_ ?_
                      rotate_left
                      · intro w'
                        go_simp
                        with_reducible rfl
                      rotate_left
                      · simp only [Act.put, List.setIfInBounds_toArray, List.set_cons_zero, List.set_cons_succ, i64_w, i32_w]
                        rfl
                      exact norm_ (by first | (simp only [putAll, Act.put, List.setIfInBounds_toArray, List.set_cons_zero, List.set_cons_succ]; done) | (simp only [putAll, Act.put, List.setIfInBounds_toArray, List.set_cons_zero, List.set_cons_succ]; rfl)) (hJ1_3_4 ⟨0, 0⟩ _ ⟨BW, ht⟩)
                    · skip
                      refine value_ (w1 := ?_) (v := ?_) (by rfl) rfl ?_ ?_
                      rotate_left 2
                      · go_simp
                        constructor
                        · rfl
                        · rfl
                      refine hK.out _ _ ⟨(blk_cell (blk_alloc (q_blk z1 BW) _) 0).trans rfl, (blk_cell (blk_alloc (q_blk z1 BW) _) 1).trans rfl, (blk_cell (blk_alloc (q_blk z2 BW) _) 0).trans rfl, (blk_cell (blk_alloc (q_blk z2 BW) _) 1).trans rfl⟩ (fun hHeld => ?_)
                      clear hK K
                      refine norm_ (a' := ?_) ?_ ?_
                      rotate_left
                      · show Act.put _ (some 3) _ = _
                        simp only [Act.put, List.setIfInBounds_toArray, List.set_cons_zero, List.set_cons_succ, i64_w, i32_w]
                        rfl
                      exact norm_ (by first | (simp only [putAll, Act.put, List.setIfInBounds_toArray, List.set_cons_zero, List.set_cons_succ]; done) | (simp only [putAll, Act.put, List.setIfInBounds_toArray, List.set_cons_zero, List.set_cons_succ]; rfl)) (hJ1_3_8 ⟨_, 0⟩ _ ⟨(BW.trans (((Below.refl _ _).alloc (Nat.le_refl _) _).mono BW.size)), BW.size, (MapKept.heap_alloc _ _).1⟩)
                    · skip
                      refine value_ (w1 := ?_) (v := ?_) (by rfl) rfl ?_ ?_
                      rotate_left 2
                      · go_simp
                        constructor
                        · rfl
                        · rfl
                      refine hK.out _ _ ⟨(blk_cell (blk_alloc (q_blk z1 BW) _) 0).trans rfl, (blk_cell (blk_alloc (q_blk z1 BW) _) 1).trans rfl, (blk_cell (blk_alloc (q_blk z2 BW) _) 0).trans rfl, (blk_cell (blk_alloc (q_blk z2 BW) _) 1).trans rfl⟩ (fun hHeld => ?_)
                      clear hK K
                      refine norm_ (a' := ?_) ?_ ?_
                      rotate_left
                      · show Act.put _ (some 4) _ = _
                        simp only [Act.put, List.setIfInBounds_toArray, List.set_cons_zero, List.set_cons_succ, i64_w, i32_w]
                        rfl
                      exact norm_ (by first | (simp only [putAll, Act.put, List.setIfInBounds_toArray, List.set_cons_zero, List.set_cons_succ]; done) | (simp only [putAll, Act.put, List.setIfInBounds_toArray, List.set_cons_zero, List.set_cons_succ]; rfl)) (hJ1_3_9 ⟨0, _⟩ _ ⟨(BW.trans (((Below.refl _ _).alloc (Nat.le_refl _) _).mono BW.size)), BW.size, (MapKept.heap_alloc _ _).1⟩)
                · skip
                  rintro ⟨g8, g9⟩ W ⟨BW, l8, h8, l9, h9, nn⟩
                  replace BW : Below W0.heap.size W0 W := BW
                  replace h8 : W.heap[g8]? = some (.cells #[.int .u64 0, .int .u64 0] 65 (0, 0)) := h8
                  replace l8 : W0.heap.size ≤ g8 := l8
                  replace h9 : W.heap[g9]? = some (.cells #[.int .u64 0, .int .u64 0] 65 (0, 0)) := h9
                  replace l9 : W0.heap.size ≤ g9 := l9
                  have hHeld : W.cell? ⟨p, 0, none⟩ = some (.int .u64 a) ∧ W.cell? ⟨p, 1, none⟩ = some (.int .u64 b) ∧ W.cell? ⟨q, 0, none⟩ = some (.int .u64 c) ∧ W.cell? ⟨q, 1, none⟩ = some (.int .u64 d) := ⟨(blk_cell (q_blk z1 BW) 0).trans rfl, (blk_cell (q_blk z1 BW) 1).trans rfl, (blk_cell (q_blk z2 BW) 0).trans rfl, (blk_cell (q_blk z2 BW) 1).trans rfl⟩
                  refine norm_ (a' := ?_) ?_ ?_
                  rotate_left
                  · simp only [putAll, Act.put, List.setIfInBounds_toArray, List.set_cons_zero, List.set_cons_succ]
                    rfl
                  refine one_ (i := 3) (N := some 9) #[true, true, true, true, false, false, false, false, true, true, false, false] rfl rfl (by kernel_rfl) (by decide) (fun K hK => ?_)
                  refine goes_ Tryd.func46 (by kernel_rfl) rfl #[(.agg #[.int .u64 c, .int .u64 d])] (by rfl) rfl rfl (by (try simp only [List.map_toArray, List.map_cons, List.map_nil]); first | done | rfl) ?_
                  refine (impl_Wide_u.calls c d c d _ rfl).mono ?_
                  rintro e W9 ⟨rfl, hb⟩
                  refine ⟨_, rfl, ?_⟩
                  replace BW := q_on BW BW.size hb
                  replace h8 := q_blk h8 hb
                  replace h9 := q_blk h9 hb
                  clear hb
                  refine hK.out _ _ ⟨(blk_cell (q_blk z1 BW) 0).trans rfl, (blk_cell (q_blk z1 BW) 1).trans rfl, (blk_cell (q_blk z2 BW) 0).trans rfl, (blk_cell (q_blk z2 BW) 1).trans rfl⟩ (fun hHeld => ?_)
                  clear hK K
                  refine norm_ (a' := ?_) ?_ ?_
                  rotate_left
                  · show Act.put _ (some 9) _ = _
                    simp only [Act.put, List.setIfInBounds_toArray, List.set_cons_zero, List.set_cons_succ, i64_w, i32_w]
                    rfl
                  exact norm_ (by first | (simp only [putAll, Act.put, List.setIfInBounds_toArray, List.set_cons_zero, List.set_cons_succ]; done) | (simp only [putAll, Act.put, List.setIfInBounds_toArray, List.set_cons_zero, List.set_cons_succ]; rfl)) (hJ1_3_8_9 ⟨g8, g9⟩ _ ⟨BW, l8, h8, l9, h9, nn⟩)
              · skip
                rintro ⟨g8, g9⟩ W ⟨BW, l9, h9⟩
                replace BW : Below W0.heap.size W0 W := BW
                replace h9 : W.heap[g9]? = some (.cells #[.int .u64 0, .int .u64 0] 65 (0, 0)) := h9
                replace l9 : W0.heap.size ≤ g9 := l9
                have hHeld : W.cell? ⟨p, 0, none⟩ = some (.int .u64 a) ∧ W.cell? ⟨p, 1, none⟩ = some (.int .u64 b) ∧ W.cell? ⟨q, 0, none⟩ = some (.int .u64 c) ∧ W.cell? ⟨q, 1, none⟩ = some (.int .u64 d) := ⟨(blk_cell (q_blk z1 BW) 0).trans rfl, (blk_cell (q_blk z1 BW) 1).trans rfl, (blk_cell (q_blk z2 BW) 0).trans rfl, (blk_cell (q_blk z2 BW) 1).trans rfl⟩
                refine norm_ (a' := ?_) ?_ ?_
                rotate_left
                · simp only [putAll, Act.put, List.setIfInBounds_toArray, List.set_cons_zero, List.set_cons_succ]
                  rfl
                refine two_ (i := 4) (j := 8) (Ni := some 10) (Nj := some 3) #[true, true, true, true, true, false, false, false, false, true, false, false] #[true, true, true, true, false, false, false, false, true, true, false, false] rfl rfl rfl rfl (by kernel_rfl) (by decide) (by decide) (fun K hK => ?_) (fun K hK => ?_)
                · skip
                  refine rgoes_ Tryd.func64 (by kernel_rfl) rfl #[.agg #[.int .u64 a, .int .u64 b], .agg #[.int .u64 c, .int .u64 d]] (by rfl) rfl rfl (by (try simp only [List.map_toArray, List.map_cons, List.map_nil]); first | done | rfl) ?_
                  refine (hR.out _ (B0.trans (BW.mono B0.size))).mono ?_
                  rintro e W9 ⟨⟨ht, rfl⟩ | ⟨ht, pv, rfl⟩, hb⟩
                  rotate_left
                  · exact Or.inr ⟨_, rfl, rfl, Or.inr ⟨ht, pv, rfl⟩, B0.trans ((q_on BW BW.size hb).mono B0.size)⟩
                  refine Or.inl ⟨_, rfl, ?_⟩
                  replace BW := q_on BW BW.size hb
                  replace h9 := q_blk h9 hb
                  clear hb
                  refine hK.out _ _ ⟨(blk_cell (q_blk z1 BW) 0).trans rfl, (blk_cell (q_blk z1 BW) 1).trans rfl, (blk_cell (q_blk z2 BW) 0).trans rfl, (blk_cell (q_blk z2 BW) 1).trans rfl⟩ (fun hHeld => ?_)
                  clear hK K
                  refine norm_ (a' := ?_) ?_ ?_
                  rotate_left
                  · show Act.put _ (some 10) _ = _
                    simp only [Act.put, List.setIfInBounds_toArray, List.set_cons_zero, List.set_cons_succ, i64_w, i32_w]
                    rfl
                  refine pure_ (i := 5) (N := some 5) (v := ?_) (a' := ?_) #[true, true, true, true, true, true, false, false, false, true, false, false] rfl rfl (by kernel_rfl) (fun _ _ _ h => h) (Or.inl ⟨by rfl, ?_⟩) ?_ ?_
                  rotate_left
                  · intro w'
                    go_simp
                    with_reducible rfl
                  rotate_left
                  · simp only [Act.put, List.setIfInBounds_toArray, List.set_cons_zero, List.set_cons_succ, i64_w, i32_w]
                    rfl
                  refine pure_ (i := 6) (N := some 11) (v := ?_) (a' := ?_) #[true, true, true, true, true, true, true, false, false, true, false, false] rfl rfl (by kernel_rfl) (fun _ _ _ h => h) (Or.inl ⟨by rfl, ?_⟩) ?_ ?_
                  rotate_left
                  · intro w'
                    go_simp
                    with_reducible rfl
                  rotate_left
                  · simp only [Act.put, List.setIfInBounds_toArray, List.set_cons_zero, List.set_cons_succ, i64_w, i32_w]
                    rfl
                  refine pure_ (i := 7) (N := some 12) (v := ?_) (a' := ?_) #[true, true, true, true, true, true, true, true, false, true, false, false] rfl rfl (by kernel_rfl) (fun _ _ _ h => h) (Or.inl ⟨by rfl, ?_⟩) ?_ ?_
                  rotate_left
                  · intro w'
                    go_simp
                    with_reducible rfl
                  rotate_left
                  · simp only [Act.put, List.setIfInBounds_toArray, List.set_cons_zero, List.set_cons_succ, i64_w, i32_w]
                    rfl
                  exact norm_ (by first | (simp only [putAll, Act.put, List.setIfInBounds_toArray, List.set_cons_zero, List.set_cons_succ]; done) | (simp only [putAll, Act.put, List.setIfInBounds_toArray, List.set_cons_zero, List.set_cons_succ]; rfl)) (hJ1_3_4_9 ⟨0, g9⟩ _ ⟨BW, ht, l9, h9⟩)
                · skip
                  refine value_ (w1 := ?_) (v := ?_) (by rfl) rfl ?_ ?_
                  rotate_left 2
                  · go_simp
                    constructor
                    · rfl
                    · rfl
                  refine hK.out _ _ ⟨(blk_cell (blk_alloc (q_blk z1 BW) _) 0).trans rfl, (blk_cell (blk_alloc (q_blk z1 BW) _) 1).trans rfl, (blk_cell (blk_alloc (q_blk z2 BW) _) 0).trans rfl, (blk_cell (blk_alloc (q_blk z2 BW) _) 1).trans rfl⟩ (fun hHeld => ?_)
                  clear hK K
                  refine norm_ (a' := ?_) ?_ ?_
                  rotate_left
                  · show Act.put _ (some 3) _ = _
                    simp only [Act.put, List.setIfInBounds_toArray, List.set_cons_zero, List.set_cons_succ, i64_w, i32_w]
                    rfl
                  exact norm_ (by first | (simp only [putAll, Act.put, List.setIfInBounds_toArray, List.set_cons_zero, List.set_cons_succ]; done) | (simp only [putAll, Act.put, List.setIfInBounds_toArray, List.set_cons_zero, List.set_cons_succ]; rfl)) (hJ1_3_8_9 ⟨_, g9⟩ _ ⟨(BW.trans (((Below.refl _ _).alloc (Nat.le_refl _) _).mono BW.size)), BW.size, (MapKept.heap_alloc _ _).1, l9, blk_alloc h9 _, (Nat.ne_of_gt (blk_lt h9))⟩)
            · skip
              rintro ⟨g8, g9⟩ W ⟨BW, l8, h8⟩
              replace BW : Below W0.heap.size W0 W := BW
              replace h8 : W.heap[g8]? = some (.cells #[.int .u64 0, .int .u64 0] 65 (0, 0)) := h8
              replace l8 : W0.heap.size ≤ g8 := l8
              have hHeld : W.cell? ⟨p, 0, none⟩ = some (.int .u64 a) ∧ W.cell? ⟨p, 1, none⟩ = some (.int .u64 b) ∧ W.cell? ⟨q, 0, none⟩ = some (.int .u64 c) ∧ W.cell? ⟨q, 1, none⟩ = some (.int .u64 d) := ⟨(blk_cell (q_blk z1 BW) 0).trans rfl, (blk_cell (q_blk z1 BW) 1).trans rfl, (blk_cell (q_blk z2 BW) 0).trans rfl, (blk_cell (q_blk z2 BW) 1).trans rfl⟩
              refine norm_ (a' := ?_) ?_ ?_
              rotate_left
              · simp only [putAll, Act.put, List.setIfInBounds_toArray, List.set_cons_zero, List.set_cons_succ]
                rfl
              refine two_ (i := 4) (j := 9) (Ni := some 10) (Nj := some 4) #[true, true, true, true, true, false, false, false, true, false, false, false] #[true, true, true, true, false, false, false, false, true, true, false, false] rfl rfl rfl rfl (by kernel_rfl) (by decide) (by decide) (fun K hK => ?_) (fun K hK => ?_)
              · skip
                refine rgoes_ Tryd.func64 (by kernel_rfl) rfl #[.agg #[.int .u64 a, .int .u64 b], .agg #[.int .u64 c, .int .u64 d]] (by rfl) rfl rfl (by (try simp only [List.map_toArray, List.map_cons, List.map_nil]); first | done | rfl) ?_
                refine (hR.out _ (B0.trans (BW.mono B0.size))).mono ?_
                rintro e W9 ⟨⟨ht, rfl⟩ | ⟨ht, pv, rfl⟩, hb⟩
                rotate_left
                · exact Or.inr ⟨_, rfl, rfl, Or.inr ⟨ht, pv, rfl⟩, B0.trans ((q_on BW BW.size hb).mono B0.size)⟩
                refine Or.inl ⟨_, rfl, ?_⟩
                replace BW := q_on BW BW.size hb
                replace h8 := q_blk h8 hb
                clear hb
                refine hK.out _ _ ⟨(blk_cell (q_blk z1 BW) 0).trans rfl, (blk_cell (q_blk z1 BW) 1).trans rfl, (blk_cell (q_blk z2 BW) 0).trans rfl, (blk_cell (q_blk z2 BW) 1).trans rfl⟩ (fun hHeld => ?_)
                clear hK K
                refine norm_ (a' := ?_) ?_ ?_
                rotate_left
                · show Act.put _ (some 10) _ = _
                  simp only [Act.put, List.setIfInBounds_toArray, List.set_cons_zero, List.set_cons_succ, i64_w, i32_w]
                  rfl
                refine pure_ (i := 5) (N := some 5) (v := ?_) (a' := ?_) #[true, true, true, true, true, true, false, false, true, false, false, false] rfl rfl (by kernel_rfl) (fun _ _ _ h => h) (Or.inl ⟨by rfl, ?_⟩) ?_ ?_
                rotate_left
                · intro w'
                  go_simp
                  with_reducible rfl
                rotate_left
                · simp only [Act.put, List.setIfInBounds_toArray, List.set_cons_zero, List.set_cons_succ, i64_w, i32_w]
                  rfl
                refine pure_ (i := 6) (N := some 11) (v := ?_) (a' := ?_) #[true, true, true, true, true, true, true, false, true, false, false, false] rfl rfl (by kernel_rfl) (fun _ _ _ h => h) (Or.inl ⟨by rfl, ?_⟩) ?_ ?_
                rotate_left
                · intro w'
                  go_simp
                  with_reducible rfl
                rotate_left
                · simp only [Act.put, List.setIfInBounds_toArray, List.set_cons_zero, List.set_cons_succ, i64_w, i32_w]
                  rfl
                refine pure_ (i := 7) (N := some 12) (v := ?_) (a' := ?_) #[true, true, true, true, true, true, true, true, true, false, false, false] rfl rfl (by kernel_rfl) (fun _ _ _ h => h) (Or.inl ⟨by rfl, ?_⟩) ?_ ?_
                rotate_left
                · intro w'
                  go_simp
                  with_reducible rfl
                rotate_left
                · simp only [Act.put, List.setIfInBounds_toArray, List.set_cons_zero, List.set_cons_succ, i64_w, i32_w]
                  rfl
                exact norm_ (by first | (simp only [putAll, Act.put, List.setIfInBounds_toArray, List.set_cons_zero, List.set_cons_succ]; done) | (simp only [putAll, Act.put, List.setIfInBounds_toArray, List.set_cons_zero, List.set_cons_succ]; rfl)) (hJ1_3_4_8 ⟨g8, 0⟩ _ ⟨BW, ht, l8, h8⟩)
              · skip
                refine value_ (w1 := ?_) (v := ?_) (by rfl) rfl ?_ ?_
                rotate_left 2
                · go_simp
                  constructor
                  · rfl
                  · rfl
                refine hK.out _ _ ⟨(blk_cell (blk_alloc (q_blk z1 BW) _) 0).trans rfl, (blk_cell (blk_alloc (q_blk z1 BW) _) 1).trans rfl, (blk_cell (blk_alloc (q_blk z2 BW) _) 0).trans rfl, (blk_cell (blk_alloc (q_blk z2 BW) _) 1).trans rfl⟩ (fun hHeld => ?_)
                clear hK K
                refine norm_ (a' := ?_) ?_ ?_
                rotate_left
                · show Act.put _ (some 4) _ = _
                  simp only [Act.put, List.setIfInBounds_toArray, List.set_cons_zero, List.set_cons_succ, i64_w, i32_w]
                  rfl
                exact norm_ (by first | (simp only [putAll, Act.put, List.setIfInBounds_toArray, List.set_cons_zero, List.set_cons_succ]; done) | (simp only [putAll, Act.put, List.setIfInBounds_toArray, List.set_cons_zero, List.set_cons_succ]; rfl)) (hJ1_3_8_9 ⟨g8, _⟩ _ ⟨(BW.trans (((Below.refl _ _).alloc (Nat.le_refl _) _).mono BW.size)), l8, blk_alloc h8 _, BW.size, (MapKept.heap_alloc _ _).1, (Nat.ne_of_lt (blk_lt h8))⟩)
          · skip
            rintro ⟨g8, g9⟩ W ⟨BW, ht⟩
            replace BW : Below W0.heap.size W0 W := BW
            have hHeld : W.cell? ⟨p, 0, none⟩ = some (.int .u64 a) ∧ W.cell? ⟨p, 1, none⟩ = some (.int .u64 b) ∧ W.cell? ⟨q, 0, none⟩ = some (.int .u64 c) ∧ W.cell? ⟨q, 1, none⟩ = some (.int .u64 d) := ⟨(blk_cell (q_blk z1 BW) 0).trans rfl, (blk_cell (q_blk z1 BW) 1).trans rfl, (blk_cell (q_blk z2 BW) 0).trans rfl, (blk_cell (q_blk z2 BW) 1).trans rfl⟩
            refine norm_ (a' := ?_) ?_ ?_
            rotate_left
            · simp only [putAll, Act.put, List.setIfInBounds_toArray, List.set_cons_zero, List.set_cons_succ]
              rfl
            refine two_ (i := 8) (j := 9) (Ni := some 3) (Nj := some 4) #[true, true, true, true, true, true, true, true, true, false, false, false] #[true, true, true, true, true, true, true, true, false, true, false, false] rfl rfl rfl rfl (by kernel_rfl) (by decide) (by decide) (fun K hK => ?_) (fun K hK => ?_)
            · skip
              refine value_ (w1 := ?_) (v := ?_) (by rfl) rfl ?_ ?_
              rotate_left 2
              · go_simp
                constructor
                · rfl
                · rfl
              refine hK.out _ _ ⟨(blk_cell (blk_alloc (q_blk z1 BW) _) 0).trans rfl, (blk_cell (blk_alloc (q_blk z1 BW) _) 1).trans rfl, (blk_cell (blk_alloc (q_blk z2 BW) _) 0).trans rfl, (blk_cell (blk_alloc (q_blk z2 BW) _) 1).trans rfl⟩ (fun hHeld => ?_)
              clear hK K
              refine norm_ (a' := ?_) ?_ ?_
              rotate_left
              · show Act.put _ (some 3) _ = _
                simp only [Act.put, List.setIfInBounds_toArray, List.set_cons_zero, List.set_cons_succ, i64_w, i32_w]
                rfl
              exact norm_ (by first | (simp only [putAll, Act.put, List.setIfInBounds_toArray, List.set_cons_zero, List.set_cons_succ]; done) | (simp only [putAll, Act.put, List.setIfInBounds_toArray, List.set_cons_zero, List.set_cons_succ]; rfl)) (hJ1_3_4_8 ⟨_, 0⟩ _ ⟨(BW.trans (((Below.refl _ _).alloc (Nat.le_refl _) _).mono BW.size)), ht, BW.size, (MapKept.heap_alloc _ _).1⟩)
            · skip
              refine value_ (w1 := ?_) (v := ?_) (by rfl) rfl ?_ ?_
              rotate_left 2
              · go_simp
                constructor
                · rfl
                · rfl
              refine hK.out _ _ ⟨(blk_cell (blk_alloc (q_blk z1 BW) _) 0).trans rfl, (blk_cell (blk_alloc (q_blk z1 BW) _) 1).trans rfl, (blk_cell (blk_alloc (q_blk z2 BW) _) 0).trans rfl, (blk_cell (blk_alloc (q_blk z2 BW) _) 1).trans rfl⟩ (fun hHeld => ?_)
              clear hK K
              refine norm_ (a' := ?_) ?_ ?_
              rotate_left
              · show Act.put _ (some 4) _ = _
                simp only [Act.put, List.setIfInBounds_toArray, List.set_cons_zero, List.set_cons_succ, i64_w, i32_w]
                rfl
              exact norm_ (by first | (simp only [putAll, Act.put, List.setIfInBounds_toArray, List.set_cons_zero, List.set_cons_succ]; done) | (simp only [putAll, Act.put, List.setIfInBounds_toArray, List.set_cons_zero, List.set_cons_succ]; rfl)) (hJ1_3_4_9 ⟨0, _⟩ _ ⟨(BW.trans (((Below.refl _ _).alloc (Nat.le_refl _) _).mono BW.size)), ht, BW.size, (MapKept.heap_alloc _ _).1⟩)
        · skip
          rintro ⟨g8, g9⟩ W ⟨BW, l8, h8, l9, h9, nn⟩
          replace BW : Below W0.heap.size W0 W := BW
          replace h8 : W.heap[g8]? = some (.cells #[.int .u64 0, .int .u64 0] 65 (0, 0)) := h8
          replace l8 : W0.heap.size ≤ g8 := l8
          replace h9 : W.heap[g9]? = some (.cells #[.int .u64 0, .int .u64 0] 65 (0, 0)) := h9
          replace l9 : W0.heap.size ≤ g9 := l9
          have hHeld : W.cell? ⟨p, 0, none⟩ = some (.int .u64 a) ∧ W.cell? ⟨p, 1, none⟩ = some (.int .u64 b) ∧ W.cell? ⟨q, 0, none⟩ = some (.int .u64 c) ∧ W.cell? ⟨q, 1, none⟩ = some (.int .u64 d) := ⟨(blk_cell (q_blk z1 BW) 0).trans rfl, (blk_cell (q_blk z1 BW) 1).trans rfl, (blk_cell (q_blk z2 BW) 0).trans rfl, (blk_cell (q_blk z2 BW) 1).trans rfl⟩
          refine norm_ (a' := ?_) ?_ ?_
          rotate_left
          · simp only [putAll, Act.put, List.setIfInBounds_toArray, List.set_cons_zero, List.set_cons_succ]
            rfl
          refine one_ (i := 4) (N := some 10) #[true, true, true, true, true, false, false, false, true, true, false, false] rfl rfl (by kernel_rfl) (by decide) (fun K hK => ?_)
          refine rgoes_ Tryd.func64 (by kernel_rfl) rfl #[.agg #[.int .u64 a, .int .u64 b], .agg #[.int .u64 c, .int .u64 d]] (by rfl) rfl rfl (by (try simp only [List.map_toArray, List.map_cons, List.map_nil]); first | done | rfl) ?_
          refine (hR.out _ (B0.trans (BW.mono B0.size))).mono ?_
          rintro e W9 ⟨⟨ht, rfl⟩ | ⟨ht, pv, rfl⟩, hb⟩
          rotate_left
          · exact Or.inr ⟨_, rfl, rfl, Or.inr ⟨ht, pv, rfl⟩, B0.trans ((q_on BW BW.size hb).mono B0.size)⟩
          refine Or.inl ⟨_, rfl, ?_⟩
          replace BW := q_on BW BW.size hb
          replace h8 := q_blk h8 hb
          replace h9 := q_blk h9 hb
          clear hb
          refine hK.out _ _ ⟨(blk_cell (q_blk z1 BW) 0).trans rfl, (blk_cell (q_blk z1 BW) 1).trans rfl, (blk_cell (q_blk z2 BW) 0).trans rfl, (blk_cell (q_blk z2 BW) 1).trans rfl⟩ (fun hHeld => ?_)
          clear hK K
          refine norm_ (a' := ?_) ?_ ?_
          rotate_left
          · show Act.put _ (some 10) _ = _
            simp only [Act.put, List.setIfInBounds_toArray, List.set_cons_zero, List.set_cons_succ, i64_w, i32_w]
            rfl
          refine pure_ (i := 5) (N := some 5) (v := ?_) (a' := ?_) #[true, true, true, true, true, true, false, false, true, true, false, false] rfl rfl (by kernel_rfl) (fun _ _ _ h => h) (Or.inl ⟨by rfl, ?_⟩) ?_ ?_
          rotate_left
          · intro w'
            go_simp
            with_reducible rfl
          rotate_left
          · simp only [Act.put, List.setIfInBounds_toArray, List.set_cons_zero, List.set_cons_succ, i64_w, i32_w]
            rfl
          refine pure_ (i := 6) (N := some 11) (v := ?_) (a' := ?_) #[true, true, true, true, true, true, true, false, true, true, false, false] rfl rfl (by kernel_rfl) (fun _ _ _ h => h) (Or.inl ⟨by rfl, ?_⟩) ?_ ?_
          rotate_left
          · intro w'
            go_simp
            with_reducible rfl
          rotate_left
          · simp only [Act.put, List.setIfInBounds_toArray, List.set_cons_zero, List.set_cons_succ, i64_w, i32_w]
            rfl
          refine pure_ (i := 7) (N := some 12) (v := ?_) (a' := ?_) #[true, true, true, true, true, true, true, true, true, true, false, false] rfl rfl (by kernel_rfl) (fun _ _ _ h => h) (Or.inl ⟨by rfl, ?_⟩) ?_ ?_
          rotate_left
          · intro w'
            go_simp
            with_reducible rfl
          rotate_left
          · simp only [Act.put, List.setIfInBounds_toArray, List.set_cons_zero, List.set_cons_succ, i64_w, i32_w]
            rfl
          exact norm_ (by first | (simp only [putAll, Act.put, List.setIfInBounds_toArray, List.set_cons_zero, List.set_cons_succ]; done) | (simp only [putAll, Act.put, List.setIfInBounds_toArray, List.set_cons_zero, List.set_cons_succ]; rfl)) (hJ1_3_4_8_9 ⟨g8, g9⟩ _ ⟨BW, ht, l8, h8, l9, h9, nn⟩)
      · skip
        rintro ⟨g8, g9⟩ W ⟨BW, ht, l9, h9⟩
        replace BW : Below W0.heap.size W0 W := BW
        replace h9 : W.heap[g9]? = some (.cells #[.int .u64 0, .int .u64 0] 65 (0, 0)) := h9
        replace l9 : W0.heap.size ≤ g9 := l9
        have hHeld : W.cell? ⟨p, 0, none⟩ = some (.int .u64 a) ∧ W.cell? ⟨p, 1, none⟩ = some (.int .u64 b) ∧ W.cell? ⟨q, 0, none⟩ = some (.int .u64 c) ∧ W.cell? ⟨q, 1, none⟩ = some (.int .u64 d) := ⟨(blk_cell (q_blk z1 BW) 0).trans rfl, (blk_cell (q_blk z1 BW) 1).trans rfl, (blk_cell (q_blk z2 BW) 0).trans rfl, (blk_cell (q_blk z2 BW) 1).trans rfl⟩
        refine norm_ (a' := ?_) ?_ ?_
        rotate_left
        · simp only [putAll, Act.put, List.setIfInBounds_toArray, List.set_cons_zero, List.set_cons_succ]
          rfl
        refine one_ (i := 8) (N := some 3) #[true, true, true, true, true, true, true, true, true, true, false, false] rfl rfl (by kernel_rfl) (by decide) (fun K hK => ?_)
        refine value_ (w1 := ?_) (v := ?_) (by rfl) rfl ?_ ?_
        rotate_left 2
        · go_simp
          constructor
          · rfl
          · rfl
        refine hK.out _ _ ⟨(blk_cell (blk_alloc (q_blk z1 BW) _) 0).trans rfl, (blk_cell (blk_alloc (q_blk z1 BW) _) 1).trans rfl, (blk_cell (blk_alloc (q_blk z2 BW) _) 0).trans rfl, (blk_cell (blk_alloc (q_blk z2 BW) _) 1).trans rfl⟩ (fun hHeld => ?_)
        clear hK K
        refine norm_ (a' := ?_) ?_ ?_
        rotate_left
        · show Act.put _ (some 3) _ = _
          simp only [Act.put, List.setIfInBounds_toArray, List.set_cons_zero, List.set_cons_succ, i64_w, i32_w]
          rfl
        exact norm_ (by first | (simp only [putAll, Act.put, List.setIfInBounds_toArray, List.set_cons_zero, List.set_cons_succ]; done) | (simp only [putAll, Act.put, List.setIfInBounds_toArray, List.set_cons_zero, List.set_cons_succ]; rfl)) (hJ1_3_4_8_9 ⟨_, g9⟩ _ ⟨(BW.trans (((Below.refl _ _).alloc (Nat.le_refl _) _).mono BW.size)), ht, BW.size, (MapKept.heap_alloc _ _).1, l9, blk_alloc h9 _, (Nat.ne_of_gt (blk_lt h9))⟩)
    · skip
      rintro ⟨g8, g9⟩ W ⟨BW, ht, l8, h8⟩
      replace BW : Below W0.heap.size W0 W := BW
      replace h8 : W.heap[g8]? = some (.cells #[.int .u64 0, .int .u64 0] 65 (0, 0)) := h8
      replace l8 : W0.heap.size ≤ g8 := l8
      have hHeld : W.cell? ⟨p, 0, none⟩ = some (.int .u64 a) ∧ W.cell? ⟨p, 1, none⟩ = some (.int .u64 b) ∧ W.cell? ⟨q, 0, none⟩ = some (.int .u64 c) ∧ W.cell? ⟨q, 1, none⟩ = some (.int .u64 d) := ⟨(blk_cell (q_blk z1 BW) 0).trans rfl, (blk_cell (q_blk z1 BW) 1).trans rfl, (blk_cell (q_blk z2 BW) 0).trans rfl, (blk_cell (q_blk z2 BW) 1).trans rfl⟩
      refine norm_ (a' := ?_) ?_ ?_
      rotate_left
      · simp only [putAll, Act.put, List.setIfInBounds_toArray, List.set_cons_zero, List.set_cons_succ]
        rfl
      refine one_ (i := 9) (N := some 4) #[true, true, true, true, true, true, true, true, true, true, false, false] rfl rfl (by kernel_rfl) (by decide) (fun K hK => ?_)
      refine value_ (w1 := ?_) (v := ?_) (by rfl) rfl ?_ ?_
      rotate_left 2
      · go_simp
        constructor
        · rfl
        · rfl
      refine hK.out _ _ ⟨(blk_cell (blk_alloc (q_blk z1 BW) _) 0).trans rfl, (blk_cell (blk_alloc (q_blk z1 BW) _) 1).trans rfl, (blk_cell (blk_alloc (q_blk z2 BW) _) 0).trans rfl, (blk_cell (blk_alloc (q_blk z2 BW) _) 1).trans rfl⟩ (fun hHeld => ?_)
      clear hK K
      refine norm_ (a' := ?_) ?_ ?_
      rotate_left
      · show Act.put _ (some 4) _ = _
        simp only [Act.put, List.setIfInBounds_toArray, List.set_cons_zero, List.set_cons_succ, i64_w, i32_w]
        rfl
      exact norm_ (by first | (simp only [putAll, Act.put, List.setIfInBounds_toArray, List.set_cons_zero, List.set_cons_succ]; done) | (simp only [putAll, Act.put, List.setIfInBounds_toArray, List.set_cons_zero, List.set_cons_succ]; rfl)) (hJ1_3_4_8_9 ⟨g8, _⟩ _ ⟨(BW.trans (((Below.refl _ _).alloc (Nat.le_refl _) _).mono BW.size)), ht, l8, blk_alloc h8 _, BW.size, (MapKept.heap_alloc _ _).1, (Nat.ne_of_lt (blk_lt h8))⟩)
  rintro ⟨g8, g9⟩ W ⟨BW, ht, l8, h8, l9, h9, nn⟩
  replace BW : Below W0.heap.size W0 W := BW
  replace h8 : W.heap[g8]? = some (.cells #[.int .u64 0, .int .u64 0] 65 (0, 0)) := h8
  replace l8 : W0.heap.size ≤ g8 := l8
  replace h9 : W.heap[g9]? = some (.cells #[.int .u64 0, .int .u64 0] 65 (0, 0)) := h9
  replace l9 : W0.heap.size ≤ g9 := l9
  have hHeld : W.cell? ⟨p, 0, none⟩ = some (.int .u64 a) ∧ W.cell? ⟨p, 1, none⟩ = some (.int .u64 b) ∧ W.cell? ⟨q, 0, none⟩ = some (.int .u64 c) ∧ W.cell? ⟨q, 1, none⟩ = some (.int .u64 d) := ⟨(blk_cell (q_blk z1 BW) 0).trans rfl, (blk_cell (q_blk z1 BW) 1).trans rfl, (blk_cell (q_blk z2 BW) 0).trans rfl, (blk_cell (q_blk z2 BW) 1).trans rfl⟩
  refine norm_ (a' := ?_) ?_ ?_
  rotate_left
  · simp only [putAll, Act.put, List.setIfInBounds_toArray, List.set_cons_zero, List.set_cons_succ]
    rfl
  refine one_ (i := 10) (N := none) #[true, true, true, true, true, true, true, true, true, true, true, false] rfl rfl (by kernel_rfl) (by decide) (fun K hK => ?_)
  have c0 : W.cell? ⟨g8, 0, none⟩ = some (.int .u64 0) := (blk_cell h8 0).trans rfl
  have c1 : W.cell? ⟨g8, 1, none⟩ = some (.int .u64 0) := (blk_cell h8 1).trans rfl
  have f0 : W.frozen? ⟨g8, 0, none⟩ = false := blk_frozen h8 0
  have f1 : W.frozen? ⟨g8, 1, none⟩ = false := blk_frozen h8 1
  refine skip_ (w1 := ?_) (by rfl) rfl ?_ ?_
  rotate_left
  · go_simp
    rfl
  clear c0 c1 f0 f1
  replace BW : Below W0.heap.size W0 ((W.setCell ⟨g8, 0, none⟩ (.int .u64 r1)).setCell ⟨g8, 1, none⟩ (.int .u64 r2)) := (BW.setCell (p := ⟨g8, 0, none⟩) l8 _).setCell (p := ⟨g8, 1, none⟩) l8 _
  replace h8 := q_set2 h8 (.int .u64 r1) (.int .u64 r2)
  replace h9 := q_far2 h9 (Ne.symm nn) (.int .u64 r1) (.int .u64 r2)
  refine hK.out _ _ ⟨(blk_cell (q_blk z1 BW) 0).trans rfl, (blk_cell (q_blk z1 BW) 1).trans rfl, (blk_cell (q_blk z2 BW) 0).trans rfl, (blk_cell (q_blk z2 BW) 1).trans rfl⟩ (fun hHeld => ?_)
  clear hK K
  refine one_ (i := 11) (N := none) #[true, true, true, true, true, true, true, true, true, true, true, true] rfl rfl (by kernel_rfl) (by decide) (fun K hK => ?_)
  generalize hW : ((W.setCell ⟨g8, 0, none⟩ (.int .u64 r1)).setCell ⟨g8, 1, none⟩ (.int .u64 r2)) = W' at *
  clear hW
  have c0 : W'.cell? ⟨g9, 0, none⟩ = some (.int .u64 0) := (blk_cell h9 0).trans rfl
  have c1 : W'.cell? ⟨g9, 1, none⟩ = some (.int .u64 0) := (blk_cell h9 1).trans rfl
  have f0 : W'.frozen? ⟨g9, 0, none⟩ = false := blk_frozen h9 0
  have f1 : W'.frozen? ⟨g9, 1, none⟩ = false := blk_frozen h9 1
  refine skip_ (w1 := ?_) (by rfl) rfl ?_ ?_
  rotate_left
  · go_simp
    rfl
  clear c0 c1 f0 f1
  replace BW : Below W0.heap.size W0 ((W'.setCell ⟨g9, 0, none⟩ (.int .u64 r3)).setCell ⟨g9, 1, none⟩ (.int .u64 r4)) := (BW.setCell (p := ⟨g9, 0, none⟩) l9 _).setCell (p := ⟨g9, 1, none⟩) l9 _
  replace h9 := q_set2 h9 (.int .u64 r3) (.int .u64 r4)
  replace h8 := q_far2 h8 nn (.int .u64 r3) (.int .u64 r4)
  refine hK.out _ _ ⟨(blk_cell (q_blk z1 BW) 0).trans rfl, (blk_cell (q_blk z1 BW) 1).trans rfl, (blk_cell (q_blk z2 BW) 0).trans rfl, (blk_cell (q_blk z2 BW) 1).trans rfl⟩ (fun hHeld => ?_)
  clear hK K
  refine done_ (by kernel_rfl) ?_
  go_wp2
  generalize ((W'.setCell ⟨g9, 0, none⟩ (.int .u64 r3)).setCell ⟨g9, 1, none⟩ (.int .u64 r4)) = W3 at BW h8 h9 ⊢
  refine start_ (n := 6) (S := fun w' => w'.cell? ⟨g8, 0, none⟩ = some (.int .u64 r1) ∧ w'.cell? ⟨g8, 1, none⟩ = some (.int .u64 r2) ∧ w'.cell? ⟨g9, 0, none⟩ = some (.int .u64 r3) ∧ w'.cell? ⟨g9, 1, none⟩ = some (.int .u64 r4)) (ds := []) #[false, false, false, false, false, false] (by kernel_rfl) rfl rfl ⟨(blk_cell h8 0).trans rfl, (blk_cell h8 1).trans rfl, (blk_cell h9 0).trans rfl, (blk_cell h9 1).trans rfl⟩ (fun hHeld => ?_)
  replace BW := BW.drew
  replace h8 := blk_drew h8
  replace h9 := blk_drew h9
  generalize W3.drew = W4 at BW h8 h9 hHeld ⊢
  refine take_ (i := 0) (N := some 13) (v := ?_) (a' := ?_) #[true, false, false, false, false, false] rfl rfl (by kernel_rfl) (fun _ _ _ h => h) (Or.inl ⟨by rfl, ?_⟩) hHeld ?_ ?_
  rotate_left
  · rintro w' ⟨s0, s1, s2, s3⟩
    go_simp
    with_reducible rfl
  rotate_left
  · simp only [Act.put, List.setIfInBounds_toArray, List.set_cons_zero, List.set_cons_succ, i64_w, i32_w]
    rfl
  refine take_ (i := 2) (N := some 15) (v := ?_) (a' := ?_) #[true, false, true, false, false, false] rfl rfl (by kernel_rfl) (fun _ _ _ h => h) (Or.inl ⟨by rfl, ?_⟩) hHeld ?_ ?_
  rotate_left
  · rintro w' ⟨s0, s1, s2, s3⟩
    go_simp
    with_reducible rfl
  rotate_left
  · simp only [Act.put, List.setIfInBounds_toArray, List.set_cons_zero, List.set_cons_succ, i64_w, i32_w]
    rfl
  refine one_ (i := 1) (N := some 14) #[true, true, true, false, false, false] rfl rfl (by kernel_rfl) (by decide) (fun K hK => ?_)
  refine goes_ Tryd.func40 (by kernel_rfl) rfl #[(.agg #[.int .u64 r1, .int .u64 r2])] (by rfl) rfl rfl (by (try simp only [List.map_toArray, List.map_cons, List.map_nil]); first | done | rfl) ?_
  refine (impl_wide.calls r1 r2 r1 r2 _ rfl).mono ?_
  rintro e W9 ⟨rfl, hb⟩
  refine ⟨_, rfl, ?_⟩
  replace BW := q_on BW BW.size hb
  replace h8 := q_blk h8 hb
  replace h9 := q_blk h9 hb
  clear hb
  refine hK.out _ _ ⟨(blk_cell h8 0).trans rfl, (blk_cell h8 1).trans rfl, (blk_cell h9 0).trans rfl, (blk_cell h9 1).trans rfl⟩ (fun hHeld => ?_)
  clear hK K
  refine norm_ (a' := ?_) ?_ ?_
  rotate_left
  · show Act.put _ (some 14) _ = _
    simp only [Act.put, List.setIfInBounds_toArray, List.set_cons_zero, List.set_cons_succ, i64_w, i32_w]
    rfl
  refine one_ (i := 3) (N := some 16) #[true, true, true, true, false, false] rfl rfl (by kernel_rfl) (by decide) (fun K hK => ?_)
  refine goes_ Tryd.func40 (by kernel_rfl) rfl #[(.agg #[.int .u64 r3, .int .u64 r4])] (by rfl) rfl rfl (by (try simp only [List.map_toArray, List.map_cons, List.map_nil]); first | done | rfl) ?_
  refine (impl_wide.calls r3 r4 r3 r4 _ rfl).mono ?_
  rintro e W9 ⟨rfl, hb⟩
  refine ⟨_, rfl, ?_⟩
  replace BW := q_on BW BW.size hb
  replace h8 := q_blk h8 hb
  replace h9 := q_blk h9 hb
  clear hb
  refine hK.out _ _ ⟨(blk_cell h8 0).trans rfl, (blk_cell h8 1).trans rfl, (blk_cell h9 0).trans rfl, (blk_cell h9 1).trans rfl⟩ (fun hHeld => ?_)
  clear hK K
  refine norm_ (a' := ?_) ?_ ?_
  rotate_left
  · show Act.put _ (some 16) _ = _
    simp only [Act.put, List.setIfInBounds_toArray, List.set_cons_zero, List.set_cons_succ, i64_w, i32_w]
    rfl
  refine pure_ (i := 4) (N := some 17) (v := ?_) (a' := ?_) #[true, true, true, true, true, false] rfl rfl (by kernel_rfl) (fun _ _ _ h => h) (Or.inl ⟨by rfl, ?_⟩) ?_ ?_
  rotate_left
  · intro w'
    go_simp
    with_reducible rfl
  rotate_left
  · simp only [Act.put, List.setIfInBounds_toArray, List.set_cons_zero, List.set_cons_succ, i64_w, i32_w]
    rfl
  refine one_ (i := 5) (N := none) #[true, true, true, true, true, true] rfl rfl (by kernel_rfl) (by decide) (fun K hK => ?_)
  have zz := q_blk zg BW
  have c0 : World.cell? _ ⟨g, 0, none⟩ = some (.int .u64 0) := (blk_cell zz 0).trans rfl
  have c1 : World.cell? _ ⟨g, 1, none⟩ = some (.int .u64 0) := (blk_cell zz 1).trans rfl
  have c2 : World.cell? _ ⟨g, 2, none⟩ = some (.int .u64 0) := (blk_cell zz 2).trans rfl
  have c3 : World.cell? _ ⟨g, 3, none⟩ = some (.int .u64 0) := (blk_cell zz 3).trans rfl
  have f0 : World.frozen? _ ⟨g, 0, none⟩ = false := blk_frozen zz 0
  have f1 : World.frozen? _ ⟨g, 1, none⟩ = false := blk_frozen zz 1
  have f2 : World.frozen? _ ⟨g, 2, none⟩ = false := blk_frozen zz 2
  have f3 : World.frozen? _ ⟨g, 3, none⟩ = false := blk_frozen zz 3
  refine skip_ (w1 := ?_) (by rfl) rfl ?_ ?_
  rotate_left
  · go_simp
    rfl
  refine hK.out _ _ ⟨(blk_cell (q_far4 h8 (Nat.ne_of_gt (Nat.lt_of_lt_of_le (blk_lt zg) l8)) _ _ _ _) 0).trans rfl, (blk_cell (q_far4 h8 (Nat.ne_of_gt (Nat.lt_of_lt_of_le (blk_lt zg) l8)) _ _ _ _) 1).trans rfl, (blk_cell (q_far4 h9 (Nat.ne_of_gt (Nat.lt_of_lt_of_le (blk_lt zg) l9)) _ _ _ _) 0).trans rfl, (blk_cell (q_far4 h9 (Nat.ne_of_gt (Nat.lt_of_lt_of_le (blk_lt zg) l9)) _ _ _ _) 1).trans rfl⟩ (fun hHeld => ?_)
  clear hK K
  refine done_ (by kernel_rfl) ?_
  go_wp2
  subst hg
  refine bodyPost_ret (v := .agg #[.int .u64 r1, .int .u64 r2, .int .u64 r3, .int .u64 r4]) (by simp [results, Tryd.results63, go_sem, c0, c1, c2, c3]) rfl ⟨Or.inl ⟨ht, rfl⟩, ?_⟩
  exact ((((B0.trans (BW.mono B0.size)).setCell (p := ⟨w.heap.size, 0, none⟩) (Nat.le_refl _) _).setCell (p := ⟨w.heap.size, 1, none⟩) (Nat.le_refl _) _).setCell (p := ⟨w.heap.size, 2, none⟩) (Nat.le_refl _) _).setCell (p := ⟨w.heap.size, 3, none⟩) (Nat.le_refl _) _
def impl_WideQuoRem.f (k : Nat) (a0_0 a0_1 a1_0 a1_1 : Int) : Option (Int × Int × Int × Int × Bool) :=
  if a1_0 = 0 ∧ a1_1 = 0 then (if 0 ≤ a0_1 then some (0, 0, 0, 0, false) else none) else (uint128_Uint128_QuoRem.f k a0_0 a0_1 a1_0 a1_1).bind fun r => some (r.1, r.2.1, r.2.2.1, r.2.2.2, true)
theorem impl_WideQuoRem.mono : ∀ a0 a1 a2 a3 k, LeO (impl_WideQuoRem.f k a0 a1 a2 a3) (impl_WideQuoRem.f (k + 1) a0 a1 a2 a3) := by
  intro a0 a1 a2 a3 k
  unfold impl_WideQuoRem.f
  split
  · exact LeO.refl _
  · exact LeO.bind (uint128_Uint128_QuoRem.mono a0 a1 a2 a3 k) (fun _ => LeO.refl _)
set_option maxHeartbeats 4000000 in
set_option maxRecDepth 100000 in
theorem impl_WideQuoRem.calls (k : Nat) (a0_0 : Int) (a0_1 : Int) (a1_0 : Int) (a1_1 : Int) (r1 : Int) (r2 : Int) (r3 : Int) (r4 : Int) (r5 : Bool) (w : World) (h : impl_WideQuoRem.f k a0_0 a0_1 a1_0 a1_1 = some (r1, r2, r3, r4, r5)) (HZ : GlobE w) :
    Calls Tryd.prog 32 #[.agg #[.int .u64 a0_0, .int .u64 a0_1], .agg #[.int .u64 a1_0, .int .u64 a1_1]] w fun e w' => e = .returned (.tuple #[(.agg #[.int .u64 r1, .int .u64 r2]), (.agg #[.int .u64 r3, .int .u64 r4]), .bool r5]) ∧ Below w.heap.size w w' := by
  have hmf : ∀ (fn : Fn) (first cap : Array Value) (w : World), (Instr.makeFunc fn first cap).run Tryd.prog w = .ok (.func fn first cap) w := fun _ _ _ _ => rfl
  have hR : ∀ W : World, Below w.heap.size w W → Calls Tryd.prog 64 #[.agg #[.int .u64 a0_0, .int .u64 a0_1], .agg #[.int .u64 a1_0, .int .u64 a1_1]] W fun e W' => ((r5 = true ∧ e = .returned (.tuple #[(.agg #[.int .u64 r1, .int .u64 r2]), (.agg #[.int .u64 r3, .int .u64 r4])])) ∨ (r5 = false ∧ ∃ pv, e = .panicked [{ v := .iface 104 pv, recovered := false }])) ∧ Below W.heap.size W W' := by
    intro W hW
    unfold impl_WideQuoRem.f at h
    split at h
    · rename_i hlt
      split at h
      case isFalse => cases h
      obtain ⟨rfl, rfl, rfl, rfl, rfl⟩ : (0 : Int) = r1 ∧ (0 : Int) = r2 ∧ (0 : Int) = r3 ∧ (0 : Int) = r4 ∧ false = r5 := by simpa using h
      rw [hlt.1, hlt.2]
      refine (QuoRem_panics a0_0 a0_1 W (decide_eq_false (by omega)) (GlobE.below HZ hW)).mono ?_
      rintro e w' ⟨⟨pv, rfl⟩, hb⟩
      exact ⟨Or.inr ⟨rfl, pv, rfl⟩, hb⟩
    · obtain ⟨⟨s1, s2, s3, s4⟩, h1, h2⟩ := Option.bind_eq_some_iff.mp h
      obtain ⟨rfl, rfl, rfl, rfl, rfl⟩ : s1 = r1 ∧ s2 = r2 ∧ s3 = r3 ∧ s4 = r4 ∧ true = r5 := by simpa using h2
      refine (uint128_Uint128_QuoRem.calls k _ _ _ _ _ _ _ _ W h1).mono ?_
      rintro e w' ⟨rfl, hb⟩
      exact ⟨Or.inl ⟨rfl, rfl⟩, hb⟩
  have hx : r5 = false → r1 = 0 ∧ r2 = 0 ∧ r3 = 0 ∧ r4 = (0 : Int) := by
    intro ht
    unfold impl_WideQuoRem.f at h
    split at h
    · split at h
      case isFalse => cases h
      obtain ⟨rfl, rfl, rfl, rfl, rfl⟩ : (0 : Int) = r1 ∧ (0 : Int) = r2 ∧ (0 : Int) = r3 ∧ (0 : Int) = r4 ∧ false = r5 := by simpa using h
      exact ⟨rfl, rfl, rfl, rfl⟩
    · obtain ⟨⟨s1, s2, s3, s4⟩, h1, h2⟩ := Option.bind_eq_some_iff.mp h
      obtain ⟨rfl, rfl, rfl, rfl, rfl⟩ : s1 = r1 ∧ s2 = r2 ∧ s3 = r3 ∧ s4 = r4 ∧ true = r5 := by simpa using h2
      cases ht
  have BN : Below w.heap.size w ((((w.alloc (.cells #[.int .u64 a0_0, .int .u64 a0_1] 24)).alloc (.cells #[.int .u64 a1_0, .int .u64 a1_1] 24)).alloc (.cells #[.int .u64 0, .int .u64 0] 24)).alloc (.cells #[.int .u64 0, .int .u64 0] 24)) := ((((Below.refl w.heap.size w).alloc (Nat.le_refl _) _).alloc (by simp) _).alloc (by simp; omega) _).alloc (by simp; omega) _
  have y0 : ((((w.alloc (.cells #[.int .u64 a0_0, .int .u64 a0_1] 24)).alloc (.cells #[.int .u64 a1_0, .int .u64 a1_1] 24)).alloc (.cells #[.int .u64 0, .int .u64 0] 24)).alloc (.cells #[.int .u64 0, .int .u64 0] 24)).heap[w.heap.size]? = some (.cells #[.int .u64 a0_0, .int .u64 a0_1] 24) := (blk_alloc (blk_alloc (blk_alloc (MapKept.heap_alloc w _).1 _) _) _)
  have y1 : ((((w.alloc (.cells #[.int .u64 a0_0, .int .u64 a0_1] 24)).alloc (.cells #[.int .u64 a1_0, .int .u64 a1_1] 24)).alloc (.cells #[.int .u64 0, .int .u64 0] 24)).alloc (.cells #[.int .u64 0, .int .u64 0] 24)).heap[w.heap.size + 1]? = some (.cells #[.int .u64 a1_0, .int .u64 a1_1] 24) := by
    have e := (MapKept.heap_alloc (w.alloc (.cells #[.int .u64 a0_0, .int .u64 a0_1] 24)) (.cells #[.int .u64 a1_0, .int .u64 a1_1] 24)).1
    rw [World.size_alloc] at e
    exact (blk_alloc (blk_alloc e _) _)
  have key : Calls Tryd.prog 52 #[.func (.func 63) #[] #[.pointer (some ⟨w.heap.size, 0, none⟩), .pointer (some ⟨w.heap.size + 1, 0, none⟩)]] ((((w.alloc (.cells #[.int .u64 a0_0, .int .u64 a0_1] 24)).alloc (.cells #[.int .u64 a1_0, .int .u64 a1_1] 24)).alloc (.cells #[.int .u64 0, .int .u64 0] 24)).alloc (.cells #[.int .u64 0, .int .u64 0] 24)) fun e w' => e = .returned (.tuple #[(.agg #[.int .u64 r1, .int .u64 r2, .int .u64 r3, .int .u64 r4]), .bool r5]) ∧ Below ((((w.alloc (.cells #[.int .u64 a0_0, .int .u64 a0_1] 24)).alloc (.cells #[.int .u64 a1_0, .int .u64 a1_1] 24)).alloc (.cells #[.int .u64 0, .int .u64 0] 24)).alloc (.cells #[.int .u64 0, .int .u64 0] 24)).heap.size ((((w.alloc (.cells #[.int .u64 a0_0, .int .u64 a0_1] 24)).alloc (.cells #[.int .u64 a1_0, .int .u64 a1_1] 24)).alloc (.cells #[.int .u64 0, .int .u64 0] 24)).alloc (.cells #[.int .u64 0, .int .u64 0] 24)) w' := by
    refine tried4 63 _ r5 r1 r2 r3 r4 _ (fun _ _ => rfl) hx (Lib.hid fun W hW => ?_)
    exact WideQuoRem_1 a0_0 a0_1 a1_0 a1_1 r1 r2 r3 r4 r5 _ _ W (Lib.hid fun W' hW' => hR W' (BN.trans ((hW.trans (hW'.mono hW.size)).mono BN.size))) (q_blk y0 hW) (q_blk y1 hW)
  have HK := Lib.hid key
  clear key h HZ hR hx y0 y1 BN
  go_enter Tryd.func32, Tryd.ntmps32
  go_wp2_with fail
  refine HK.out.mono ?_
  rintro e w1 ⟨rfl, hb⟩
  have hs := hb.size
  simp only [World.size_alloc] at hs
  have g2 : w1.heap[w.heap.size + 1 + 1]? = some (.cells #[.int .u64 0, .int .u64 0] 24) := (hb.block _ (by simp only [World.size_alloc]; omega)).trans (by
    have e := (MapKept.heap_alloc ((w.alloc (.cells #[.int .u64 a0_0, .int .u64 a0_1] 24)).alloc (.cells #[.int .u64 a1_0, .int .u64 a1_1] 24)) (.cells #[.int .u64 0, .int .u64 0] 24)).1
    rw [World.size_alloc, World.size_alloc] at e
    exact (blk_alloc e _))
  have g3 : w1.heap[w.heap.size + 1 + 1 + 1]? = some (.cells #[.int .u64 0, .int .u64 0] 24) := (hb.block _ (by simp only [World.size_alloc]; omega)).trans (by
    have e := (MapKept.heap_alloc (((w.alloc (.cells #[.int .u64 a0_0, .int .u64 a0_1] 24)).alloc (.cells #[.int .u64 a1_0, .int .u64 a1_1] 24)).alloc (.cells #[.int .u64 0, .int .u64 0] 24)) (.cells #[.int .u64 0, .int .u64 0] 24)).1
    rw [World.size_alloc, World.size_alloc, World.size_alloc] at e
    exact e)
  have B : Below w.heap.size w w1 := (((((Below.refl w.heap.size w).alloc (Nat.le_refl _) _).alloc (by simp) _).alloc (by simp; omega) _).alloc (by simp; omega) _).trans (hb.mono (by simp only [World.size_alloc]; omega))
  have HB := Lib.hid B
  have G2 := Lib.hid g2
  have G3 := Lib.hid g3
  clear hb g2 HK B g3
  go_wp2_with fail
  obtain ⟨y1, y2, y3⟩ := q_box w1 (.cells #[.int .u64 r1, .int .u64 r2, .int .u64 r3, .int .u64 r4] 75)
  have h7 := y1
  have h4 := blk_alloc G2.out (.cells #[.int .u64 r1, .int .u64 r2, .int .u64 r3, .int .u64 r4] 75)
  have h5 := blk_alloc G3.out (.cells #[.int .u64 r1, .int .u64 r2, .int .u64 r3, .int .u64 r4] 75)
  have BW : Below w.heap.size w (w1.alloc (.cells #[.int .u64 r1, .int .u64 r2, .int .u64 r3, .int .u64 r4] 75)) := HB.out.trans (y2.mono HB.out.size)
  have n4 : w1.heap.size ≠ w.heap.size + 1 + 1 := by omega
  have l4 : w.heap.size ≤ w.heap.size + 1 + 1 := by omega
  have n5 : w1.heap.size ≠ w.heap.size + 1 + 1 + 1 := by omega
  have n45 : w.heap.size + 1 + 1 ≠ w.heap.size + 1 + 1 + 1 := by omega
  have l5 : w.heap.size ≤ w.heap.size + 1 + 1 + 1 := by omega
  clear y1 y2 y3 hs HB G2 G3 
  generalize (w1.alloc (.cells #[.int .u64 r1, .int .u64 r2, .int .u64 r3, .int .u64 r4] 75)) = W7 at BW h7 h4 h5 ⊢
  generalize w1.heap.size = g7 at h7 n4 n5 ⊢
  generalize w.heap.size + 1 + 1 + 1 = g5 at h5 n5 n45 l5 ⊢
  generalize w.heap.size + 1 + 1 = g4 at h4 n4 n45 l4 ⊢
  refine start_ (n := 8) (S := fun w' => w'.cell? ⟨g7, 0, none⟩ = some (.int .u64 r1) ∧ w'.cell? ⟨g7, 1, none⟩ = some (.int .u64 r2) ∧ w'.cell? ⟨g7, 2, none⟩ = some (.int .u64 r3) ∧ w'.cell? ⟨g7, 3, none⟩ = some (.int .u64 r4)) (ds := []) #[false, false, false, false, false, false, false, false] (by kernel_rfl) rfl rfl ⟨(blk_cell h7 0).trans rfl, (blk_cell h7 1).trans rfl, (blk_cell h7 2).trans rfl, (blk_cell h7 3).trans rfl⟩ (fun hHeld => ?_)
  replace BW := BW.drew
  replace h4 := blk_drew h4
  replace h5 := blk_drew h5
  replace h7 := blk_drew h7
  generalize W7.drew = W8 at BW h4 h5 h7 hHeld ⊢
  refine pure_ (i := 0) (N := some 13) (v := ?_) (a' := ?_) #[true, false, false, false, false, false, false, false] rfl rfl (by kernel_rfl) (fun _ _ _ h => h) (Or.inl ⟨by rfl, ?_⟩) ?_ ?_
  rotate_left
  · intro w'
    go_simp
    with_reducible rfl
  rotate_left
  · simp only [Act.put, List.setIfInBounds_toArray, List.set_cons_zero, List.set_cons_succ, i64_w, i32_w]
    rfl
  refine pure_ (i := 2) (N := some 15) (v := ?_) (a' := ?_) #[true, false, true, false, false, false, false, false] rfl rfl (by kernel_rfl) (fun _ _ _ h => h) (Or.inl ⟨by rfl, ?_⟩) ?_ ?_
  rotate_left
  · intro w'
    go_simp
    with_reducible rfl
  rotate_left
  · simp only [Act.put, List.setIfInBounds_toArray, List.set_cons_zero, List.set_cons_succ, i64_w, i32_w]
    rfl
  refine pure_ (i := 4) (N := some 17) (v := ?_) (a' := ?_) #[true, false, true, false, true, false, false, false] rfl rfl (by kernel_rfl) (fun _ _ _ h => h) (Or.inl ⟨by rfl, ?_⟩) ?_ ?_
  rotate_left
  · intro w'
    go_simp
    with_reducible rfl
  rotate_left
  · simp only [Act.put, List.setIfInBounds_toArray, List.set_cons_zero, List.set_cons_succ, i64_w, i32_w]
    rfl
  refine take_ (i := 1) (N := some 14) (v := ?_) (a' := ?_) #[true, true, true, false, true, false, false, false] rfl rfl (by kernel_rfl) (fun _ _ _ h => h) (Or.inl ⟨by rfl, ?_⟩) hHeld ?_ ?_
  rotate_left
  · rintro w' ⟨s0, s1, s2, s3⟩
    go_simp
    with_reducible rfl
  rotate_left
  · simp only [Act.put, List.setIfInBounds_toArray, List.set_cons_zero, List.set_cons_succ, i64_w, i32_w]
    rfl
  refine take_ (i := 3) (N := some 16) (v := ?_) (a' := ?_) #[true, true, true, true, true, false, false, false] rfl rfl (by kernel_rfl) (fun _ _ _ h => h) (Or.inl ⟨by rfl, ?_⟩) hHeld ?_ ?_
  rotate_left
  · rintro w' ⟨s0, s1, s2, s3⟩
    go_simp
    with_reducible rfl
  rotate_left
  · simp only [Act.put, List.setIfInBounds_toArray, List.set_cons_zero, List.set_cons_succ, i64_w, i32_w]
    rfl
  refine one_ (i := 5) (N := none) #[true, true, true, true, true, true, false, false] rfl rfl (by kernel_rfl) (by decide) (fun K hK => ?_)
  have c0 : W8.cell? ⟨g4, 0, none⟩ = some (.int .u64 0) := (blk_cell h4 0).trans rfl
  have c1 : W8.cell? ⟨g4, 1, none⟩ = some (.int .u64 0) := (blk_cell h4 1).trans rfl
  have f0 : W8.frozen? ⟨g4, 0, none⟩ = false := blk_frozen h4 0
  have f1 : W8.frozen? ⟨g4, 1, none⟩ = false := blk_frozen h4 1
  refine skip_ (w1 := ?_) (by rfl) rfl ?_ ?_
  rotate_left
  · go_simp
    rfl
  clear c0 c1 f0 f1
  replace BW : Below w.heap.size w ((W8.setCell ⟨g4, 0, none⟩ (.int .u64 r1)).setCell ⟨g4, 1, none⟩ (.int .u64 r2)) := (BW.setCell (p := ⟨g4, 0, none⟩) l4 _).setCell (p := ⟨g4, 1, none⟩) l4 _
  replace h4 := q_set2 h4 (.int .u64 r1) (.int .u64 r2)
  replace h7 := q_far2 h7 n4 (.int .u64 r1) (.int .u64 r2)
  replace h5 := q_far2 h5 (Ne.symm n45) (.int .u64 r1) (.int .u64 r2)
  refine hK.out _ _ ⟨(blk_cell h7 0).trans rfl, (blk_cell h7 1).trans rfl, (blk_cell h7 2).trans rfl, (blk_cell h7 3).trans rfl⟩ (fun hHeld => ?_)
  clear hK K
  refine one_ (i := 6) (N := none) #[true, true, true, true, true, true, true, false] rfl rfl (by kernel_rfl) (by decide) (fun K hK => ?_)
  generalize hW : ((W8.setCell ⟨g4, 0, none⟩ (.int .u64 r1)).setCell ⟨g4, 1, none⟩ (.int .u64 r2)) = W' at *
  clear hW
  have c0 : W'.cell? ⟨g5, 0, none⟩ = some (.int .u64 0) := (blk_cell h5 0).trans rfl
  have c1 : W'.cell? ⟨g5, 1, none⟩ = some (.int .u64 0) := (blk_cell h5 1).trans rfl
  have f0 : W'.frozen? ⟨g5, 0, none⟩ = false := blk_frozen h5 0
  have f1 : W'.frozen? ⟨g5, 1, none⟩ = false := blk_frozen h5 1
  refine skip_ (w1 := ?_) (by rfl) rfl ?_ ?_
  rotate_left
  · go_simp
    rfl
  clear c0 c1 f0 f1
  replace BW : Below w.heap.size w ((W'.setCell ⟨g5, 0, none⟩ (.int .u64 r3)).setCell ⟨g5, 1, none⟩ (.int .u64 r4)) := (BW.setCell (p := ⟨g5, 0, none⟩) l5 _).setCell (p := ⟨g5, 1, none⟩) l5 _
  replace h5 := q_set2 h5 (.int .u64 r3) (.int .u64 r4)
  replace h7 := q_far2 h7 n5 (.int .u64 r3) (.int .u64 r4)
  replace h4 := q_far2 h4 n45 (.int .u64 r3) (.int .u64 r4)
  refine hK.out _ _ ⟨(blk_cell h7 0).trans rfl, (blk_cell h7 1).trans rfl, (blk_cell h7 2).trans rfl, (blk_cell h7 3).trans rfl⟩ (fun hHeld => ?_)
  clear hK K
  refine pure_ (i := 7) (N := some 6) (v := ?_) (a' := ?_) #[true, true, true, true, true, true, true, true] rfl rfl (by kernel_rfl) (fun _ _ _ h => h) (Or.inl ⟨by rfl, ?_⟩) ?_ ?_
  rotate_left
  · intro w'
    go_simp
    with_reducible rfl
  rotate_left
  · simp only [Act.put, List.setIfInBounds_toArray, List.set_cons_zero, List.set_cons_succ, i64_w, i32_w]
    rfl
  refine done_ (by kernel_rfl) ?_
  go_wp2
  generalize ((W'.setCell ⟨g5, 0, none⟩ (.int .u64 r3)).setCell ⟨g5, 1, none⟩ (.int .u64 r4)) = W9 at BW h4 h5 ⊢
  have c0 : W9.cell? ⟨g4, 0, none⟩ = some (.int .u64 r1) := (blk_cell h4 0).trans rfl
  have c1 : W9.cell? ⟨g4, 1, none⟩ = some (.int .u64 r2) := (blk_cell h4 1).trans rfl
  have c2 : W9.cell? ⟨g5, 0, none⟩ = some (.int .u64 r3) := (blk_cell h5 0).trans rfl
  have c3 : W9.cell? ⟨g5, 1, none⟩ = some (.int .u64 r4) := (blk_cell h5 1).trans rfl
  refine bodyPost_ret (v := .tuple #[(.agg #[.int .u64 r1, .int .u64 r2]), (.agg #[.int .u64 r3, .int .u64 r4]), .bool r5]) (by simp [results, Tryd.results32, go_sem, c0, c1, c2, c3]) rfl ⟨rfl, BW⟩
end Go.Proofs.YtiifnofghicnaaaDoor.PAll
