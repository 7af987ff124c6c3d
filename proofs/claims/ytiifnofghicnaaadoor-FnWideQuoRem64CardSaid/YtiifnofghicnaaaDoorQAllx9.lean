/- Printed by the kit's print.py, called for several laws at once: functions as plain Lean, and the walks' contracts. -/
import Derived.Test.YtiifnofghicnaaaDoorQAllx0
import Derived.Test.YtiifnofghicnaaaDoorQAllx1
import Derived.Test.YtiifnofghicnaaaDoorQAllx2
import Derived.Test.YtiifnofghicnaaaDoorQAllx4
import Derived.Test.YtiifnofghicnaaaDoorQAllx5
namespace Go.Proofs.YtiifnofghicnaaaDoor.PAll
open Go.RowKit Go.Proofs.YtiifnofghicnaaaDoorW.PrintWords Go.Proofs.YtiifnofghicnaaaDoorW.PrintLast Go.Proofs.YtiifnofghicnaaaDoorW.PrintMore
attribute [local go_sem] max2_int min2_int max_two min_two max_three min_three max_four min_four   -- for this text's walks alone
set_option linter.unusedVariables false
set_option linter.unusedSimpArgs false
/-! ### impl_WideQuoRem64: function 27 -/
set_option maxHeartbeats 4000000 in
set_option maxRecDepth 100000 in
theorem WideQuoRem64_1 (a b c r1 r2 r3 : Int) (t : Bool) (p q : Nat) (w : World)
    (hR : Hid (∀ W : World, Below w.heap.size w W → Calls Tryd.prog 54 #[.agg #[.int .u64 a, .int .u64 b], .int .u64 c] W fun e W' => ((t = true ∧ e = .returned (.tuple #[(.agg #[.int .u64 r1, .int .u64 r2]), .int .u64 r3])) ∨ (t = false ∧ ∃ pv, e = .panicked [{ v := .iface 104 pv, recovered := false }])) ∧ Below W.heap.size W W'))
    (hp : w.heap[p]? = some (.cells #[.int .u64 a, .int .u64 b] 24 (0, 0))) (hq : w.heap[q]? = some (.cells #[.int .u64 c] 22 (0, 0))) :
    Calls Tryd.prog 53 #[.pointer (some ⟨p, 0, none⟩), .pointer (some ⟨q, 0, none⟩)] w fun e w' => ((t = true ∧ e = .returned (.agg #[.int .u64 r1, .int .u64 r2, .int .u64 r3, .int .u64 0])) ∨ (t = false ∧ ∃ pv, e = .panicked [{ v := .iface 104 pv, recovered := false }])) ∧ Below w.heap.size w w' := by
  go_enter Tryd.func53, Tryd.ntmps53
  go_wp2_with fail
  obtain ⟨y1, y2, y3⟩ := q_box w (.cells #[.int .u64 0, .int .u64 0, .int .u64 0, .int .u64 0] 75)
  have k1 := blk_alloc hp (.cells #[.int .u64 0, .int .u64 0, .int .u64 0, .int .u64 0] 75)
  have k2 := blk_alloc hq (.cells #[.int .u64 0, .int .u64 0, .int .u64 0, .int .u64 0] 75)
  have HB2 := Lib.hid y2
  clear y2 y3 hp hq
  generalize hg : w.heap.size = g at y1 ⊢
  generalize w.alloc (.cells #[.int .u64 0, .int .u64 0, .int .u64 0, .int .u64 0] 75) = W00 at k1 k2 y1 HB2 ⊢
  refine start_ (n := 10) (S := fun w' => w'.cell? ⟨p, 0, none⟩ = some (.int .u64 a) ∧ w'.cell? ⟨p, 1, none⟩ = some (.int .u64 b) ∧ w'.cell? ⟨q, 0, none⟩ = some (.int .u64 c)) (ds := []) #[false, false, false, false, false, false, false, false, false, false] (by kernel_rfl) rfl rfl ⟨(blk_cell k1 0).trans rfl, (blk_cell k1 1).trans rfl, (blk_cell k2 0).trans rfl⟩ (fun hHeld => ?_)
  have z1 := blk_drew k1
  have z2 := blk_drew k2
  have zg := blk_drew y1
  have B0 : Below w.heap.size w W00.drew := HB2.out.drew
  clear k1 k2 y1 HB2
  generalize W00.drew = W0 at z1 z2 zg B0 hHeld ⊢
  have BW := Below.refl W0.heap.size W0
  refine take_ (i := 0) (N := some 6) (v := ?_) (a' := ?_) #[true, false, false, false, false, false, false, false, false, false] rfl rfl (by kernel_rfl) (fun _ _ _ h => h) (Or.inl ⟨by rfl, ?_⟩) hHeld ?_ ?_
  rotate_left
  · rintro w' ⟨s0, s1, s2⟩
    go_simp
    with_reducible rfl
  rotate_left
  · simp only [Act.put, List.setIfInBounds_toArray, List.set_cons_zero, List.set_cons_succ, i64_w, i32_w]
    rfl
  refine take_ (i := 2) (N := some 8) (v := ?_) (a' := ?_) #[true, false, true, false, false, false, false, false, false, false] rfl rfl (by kernel_rfl) (fun _ _ _ h => h) (Or.inl ⟨by rfl, ?_⟩) hHeld ?_ ?_
  rotate_left
  · rintro w' ⟨s0, s1, s2⟩
    go_simp
    with_reducible rfl
  rotate_left
  · simp only [Act.put, List.setIfInBounds_toArray, List.set_cons_zero, List.set_cons_succ, i64_w, i32_w]
    rfl
  refine join_ (σ := Nat) 2 #[true, true, true, true, true, true, true, true, false, false] (fun s => [(7, (.agg #[.int .u64 a, .int .u64 b])), (9, (.tuple #[(.agg #[.int .u64 r1, .int .u64 r2]), .int .u64 r3])), (5, (.tuple #[(.agg #[.int .u64 r1, .int .u64 r2]), .int .u64 r3])), (10, (.agg #[.int .u64 r1, .int .u64 r2])), (11, (.int .u64 r3)), (3, .pointer (some ⟨s, 0, none⟩))]) (fun s w' => Below W0.heap.size W0 w' ∧ t = true ∧ W0.heap.size ≤ s ∧ w'.heap[s]? = some (.cells #[.int .u64 0, .int .u64 0] 65 (0, 0))) ?_ ?_
  rotate_left
  · intro hJ1_3_7
    refine join_ (σ := Nat) 3 #[true, true, true, true, true, true, true, false, false, false] (fun s => [(7, (.agg #[.int .u64 a, .int .u64 b])), (9, (.tuple #[(.agg #[.int .u64 r1, .int .u64 r2]), .int .u64 r3])), (5, (.tuple #[(.agg #[.int .u64 r1, .int .u64 r2]), .int .u64 r3])), (10, (.agg #[.int .u64 r1, .int .u64 r2])), (11, (.int .u64 r3))]) (fun s w' => Below W0.heap.size W0 w' ∧ t = true) ?_ ?_
    rotate_left
    · intro hJ1_3
      refine join_ (σ := Nat) 6 #[true, true, true, false, false, false, false, true, false, false] (fun s => [(7, (.agg #[.int .u64 a, .int .u64 b])), (3, .pointer (some ⟨s, 0, none⟩))]) (fun s w' => Below W0.heap.size W0 w' ∧ W0.heap.size ≤ s ∧ w'.heap[s]? = some (.cells #[.int .u64 0, .int .u64 0] 65 (0, 0))) ?_ ?_
      rotate_left
      · intro hJ1_7
        refine join_ (σ := Nat) 7 #[true, true, true, false, false, false, false, false, false, false] (fun s => [(7, (.agg #[.int .u64 a, .int .u64 b]))]) (fun s w' => Below W0.heap.size W0 w') ?_ ?_
        rotate_left
        · intro hJ1
          refine join_ (σ := Nat) 7 #[true, false, true, false, false, false, false, true, false, false] (fun s => [(3, .pointer (some ⟨s, 0, none⟩))]) (fun s w' => Below W0.heap.size W0 w' ∧ W0.heap.size ≤ s ∧ w'.heap[s]? = some (.cells #[.int .u64 0, .int .u64 0] 65 (0, 0))) ?_ ?_
          rotate_left
          · intro hJ7
            refine two_ (i := 1) (j := 7) (Ni := some 7) (Nj := some 3) #[true, true, true, false, false, false, false, false, false, false] #[true, false, true, false, false, false, false, true, false, false] rfl rfl rfl rfl (by kernel_rfl) (by decide) (by decide) (fun K hK => ?_) (fun K hK => ?_)
            · skip
              refine goes_ Tryd.func46 (by kernel_rfl) rfl #[(.agg #[.int .u64 a, .int .u64 b])] (by rfl) rfl rfl (by (try simp only [List.map_toArray, List.map_cons, List.map_nil]); first | done | rfl) ?_
              refine (impl_Wide_u.calls a b a b _ rfl).mono ?_
              rintro e W9 ⟨rfl, hb⟩
              refine ⟨_, rfl, ?_⟩
              replace BW := q_on BW BW.size hb
              clear hb
              refine hK.out _ _ ⟨(blk_cell (q_blk z1 BW) 0).trans rfl, (blk_cell (q_blk z1 BW) 1).trans rfl, (blk_cell (q_blk z2 BW) 0).trans rfl⟩ (fun hHeld => ?_)
              clear hK K
              refine norm_ (a' := ?_) ?_ ?_
              rotate_left
              · show Act.put _ (some 7) _ = _
                simp only [Act.put, List.setIfInBounds_toArray, List.set_cons_zero, List.set_cons_succ, i64_w, i32_w]
                rfl
              exact norm_ (by first | (simp only [putAll, Act.put, List.setIfInBounds_toArray, List.set_cons_zero, List.set_cons_succ]; done) | (simp only [putAll, Act.put, List.setIfInBounds_toArray, List.set_cons_zero, List.set_cons_succ]; rfl)) (hJ1 0 _ BW)
            · skip
              refine value_ (w1 := ?_) (v := ?_) (by rfl) rfl ?_ ?_
              rotate_left 2
              · go_simp
                constructor
                · rfl
                · rfl
              refine hK.out _ _ ⟨(blk_cell (blk_alloc (q_blk z1 BW) _) 0).trans rfl, (blk_cell (blk_alloc (q_blk z1 BW) _) 1).trans rfl, (blk_cell (blk_alloc (q_blk z2 BW) _) 0).trans rfl⟩ (fun hHeld => ?_)
              clear hK K
              refine norm_ (a' := ?_) ?_ ?_
              rotate_left
              · show Act.put _ (some 3) _ = _
                simp only [Act.put, List.setIfInBounds_toArray, List.set_cons_zero, List.set_cons_succ, i64_w, i32_w]
                rfl
              exact norm_ (by first | (simp only [putAll, Act.put, List.setIfInBounds_toArray, List.set_cons_zero, List.set_cons_succ]; done) | (simp only [putAll, Act.put, List.setIfInBounds_toArray, List.set_cons_zero, List.set_cons_succ]; rfl)) (hJ7 _ _ ⟨(BW.trans (((Below.refl _ _).alloc (Nat.le_refl _) _).mono BW.size)), BW.size, (MapKept.heap_alloc _ _).1⟩)
          · skip
            rintro g7 W ⟨BW, l7, h7⟩
            replace BW : Below W0.heap.size W0 W := BW
            replace h7 : W.heap[g7]? = some (.cells #[.int .u64 0, .int .u64 0] 65 (0, 0)) := h7
            replace l7 : W0.heap.size ≤ g7 := l7
            have hHeld : W.cell? ⟨p, 0, none⟩ = some (.int .u64 a) ∧ W.cell? ⟨p, 1, none⟩ = some (.int .u64 b) ∧ W.cell? ⟨q, 0, none⟩ = some (.int .u64 c) := ⟨(blk_cell (q_blk z1 BW) 0).trans rfl, (blk_cell (q_blk z1 BW) 1).trans rfl, (blk_cell (q_blk z2 BW) 0).trans rfl⟩
            refine norm_ (a' := ?_) ?_ ?_
            rotate_left
            · simp only [putAll, Act.put, List.setIfInBounds_toArray, List.set_cons_zero, List.set_cons_succ]
              rfl
            refine one_ (i := 1) (N := some 7) #[true, true, true, false, false, false, false, true, false, false] rfl rfl (by kernel_rfl) (by decide) (fun K hK => ?_)
            refine goes_ Tryd.func46 (by kernel_rfl) rfl #[(.agg #[.int .u64 a, .int .u64 b])] (by rfl) rfl rfl (by (try simp only [List.map_toArray, List.map_cons, List.map_nil]); first | done | rfl) ?_
            refine (impl_Wide_u.calls a b a b _ rfl).mono ?_
            rintro e W9 ⟨rfl, hb⟩
            refine ⟨_, rfl, ?_⟩
            replace BW := q_on BW BW.size hb
            replace h7 := q_blk h7 hb
            clear hb
            refine hK.out _ _ ⟨(blk_cell (q_blk z1 BW) 0).trans rfl, (blk_cell (q_blk z1 BW) 1).trans rfl, (blk_cell (q_blk z2 BW) 0).trans rfl⟩ (fun hHeld => ?_)
            clear hK K
            refine norm_ (a' := ?_) ?_ ?_
            rotate_left
            · show Act.put _ (some 7) _ = _
              simp only [Act.put, List.setIfInBounds_toArray, List.set_cons_zero, List.set_cons_succ, i64_w, i32_w]
              rfl
            exact norm_ (by first | (simp only [putAll, Act.put, List.setIfInBounds_toArray, List.set_cons_zero, List.set_cons_succ]; done) | (simp only [putAll, Act.put, List.setIfInBounds_toArray, List.set_cons_zero, List.set_cons_succ]; rfl)) (hJ1_7 g7 _ ⟨BW, l7, h7⟩)
        · skip
          rintro g7 W BW
          replace BW : Below W0.heap.size W0 W := BW
          have hHeld : W.cell? ⟨p, 0, none⟩ = some (.int .u64 a) ∧ W.cell? ⟨p, 1, none⟩ = some (.int .u64 b) ∧ W.cell? ⟨q, 0, none⟩ = some (.int .u64 c) := ⟨(blk_cell (q_blk z1 BW) 0).trans rfl, (blk_cell (q_blk z1 BW) 1).trans rfl, (blk_cell (q_blk z2 BW) 0).trans rfl⟩
          refine norm_ (a' := ?_) ?_ ?_
          rotate_left
          · simp only [putAll, Act.put, List.setIfInBounds_toArray, List.set_cons_zero, List.set_cons_succ]
            rfl
          refine two_ (i := 3) (j := 7) (Ni := some 9) (Nj := some 3) #[true, true, true, true, false, false, false, false, false, false] #[true, true, true, false, false, false, false, true, false, false] rfl rfl rfl rfl (by kernel_rfl) (by decide) (by decide) (fun K hK => ?_) (fun K hK => ?_)
          · skip
            refine rgoes_ Tryd.func54 (by kernel_rfl) rfl #[.agg #[.int .u64 a, .int .u64 b], .int .u64 c] (by rfl) rfl rfl (by (try simp only [List.map_toArray, List.map_cons, List.map_nil]); first | done | rfl) ?_
            refine (hR.out _ (B0.trans (BW.mono B0.size))).mono ?_
            rintro e W9 ⟨⟨ht, rfl⟩ | ⟨ht, pv, rfl⟩, hb⟩
            rotate_left
            · exact Or.inr ⟨_, rfl, rfl, Or.inr ⟨ht, pv, rfl⟩, B0.trans ((q_on BW BW.size hb).mono B0.size)⟩
            refine Or.inl ⟨_, rfl, ?_⟩
            replace BW := q_on BW BW.size hb
            clear hb
            refine hK.out _ _ ⟨(blk_cell (q_blk z1 BW) 0).trans rfl, (blk_cell (q_blk z1 BW) 1).trans rfl, (blk_cell (q_blk z2 BW) 0).trans rfl⟩ (fun hHeld => ?_)
            clear hK K
            refine norm_ (a' := ?_) ?_ ?_
            rotate_left
            · show Act.put _ (some 9) _ = _
              simp only [Act.put, List.setIfInBounds_toArray, List.set_cons_zero, List.set_cons_succ, i64_w, i32_w]
              rfl
            refine pure_ (i := 4) (N := some 5) (v := ?_) (a' := ?_) #[true, true, true, true, true, false, false, false, false, false] rfl rfl (by kernel_rfl) (fun _ _ _ h => h) (Or.inl ⟨by rfl, ?_⟩) ?_ ?_
            rotate_left
            · intro w'
              go_simp
              with_reducible rfl
            rotate_left
            · simp only [Act.put, List.setIfInBounds_toArray, List.set_cons_zero, List.set_cons_succ, i64_w, i32_w]
              rfl
            refine pure_ (i := 5) (N := some 10) (v := ?_) (a' := ?_) #[true, true, true, true, true, true, false, false, false, false] rfl rfl (by kernel_rfl) (fun _ _ _ h => h) (Or.inl ⟨by rfl, ?_⟩) ?_ ?_
            rotate_left
            · intro w'
              go_simp
              with_reducible rfl
            rotate_left
            · simp only [Act.put, List.setIfInBounds_toArray, List.set_cons_zero, List.set_cons_succ, i64_w, i32_w]
              rfl
            refine pure_ (i := 6) (N := some 11) (v := ?_) (a' := ?_) #[true, true, true, true, true, true, true, false, false, false] rfl rfl (by kernel_rfl) (fun _ _ _ h => h) (Or.inl ⟨by rfl, ?_⟩) ?_ ?_
            rotate_left
            · intro w'
              go_simp
              with_reducible rfl
            rotate_left
            · simp only [Act.put, List.setIfInBounds_toArray, List.set_cons_zero, List.set_cons_succ, i64_w, i32_w]
              rfl
            exact norm_ (by first | (simp only [putAll, Act.put, List.setIfInBounds_toArray, List.set_cons_zero, List.set_cons_succ]; done) | (simp only [putAll, Act.put, List.setIfInBounds_toArray, List.set_cons_zero, List.set_cons_succ]; rfl)) (hJ1_3 0 _ ⟨BW, ht⟩)
          · skip
            refine value_ (w1 := ?_) (v := ?_) (by rfl) rfl ?_ ?_
            rotate_left 2
            · go_simp
              constructor
              · rfl
              · rfl
            refine hK.out _ _ ⟨(blk_cell (blk_alloc (q_blk z1 BW) _) 0).trans rfl, (blk_cell (blk_alloc (q_blk z1 BW) _) 1).trans rfl, (blk_cell (blk_alloc (q_blk z2 BW) _) 0).trans rfl⟩ (fun hHeld => ?_)
            clear hK K
            refine norm_ (a' := ?_) ?_ ?_
            rotate_left
            · show Act.put _ (some 3) _ = _
              simp only [Act.put, List.setIfInBounds_toArray, List.set_cons_zero, List.set_cons_succ, i64_w, i32_w]
              rfl
            exact norm_ (by first | (simp only [putAll, Act.put, List.setIfInBounds_toArray, List.set_cons_zero, List.set_cons_succ]; done) | (simp only [putAll, Act.put, List.setIfInBounds_toArray, List.set_cons_zero, List.set_cons_succ]; rfl)) (hJ1_7 _ _ ⟨(BW.trans (((Below.refl _ _).alloc (Nat.le_refl _) _).mono BW.size)), BW.size, (MapKept.heap_alloc _ _).1⟩)
      · skip
        rintro g7 W ⟨BW, l7, h7⟩
        replace BW : Below W0.heap.size W0 W := BW
        replace h7 : W.heap[g7]? = some (.cells #[.int .u64 0, .int .u64 0] 65 (0, 0)) := h7
        replace l7 : W0.heap.size ≤ g7 := l7
        have hHeld : W.cell? ⟨p, 0, none⟩ = some (.int .u64 a) ∧ W.cell? ⟨p, 1, none⟩ = some (.int .u64 b) ∧ W.cell? ⟨q, 0, none⟩ = some (.int .u64 c) := ⟨(blk_cell (q_blk z1 BW) 0).trans rfl, (blk_cell (q_blk z1 BW) 1).trans rfl, (blk_cell (q_blk z2 BW) 0).trans rfl⟩
        refine norm_ (a' := ?_) ?_ ?_
        rotate_left
        · simp only [putAll, Act.put, List.setIfInBounds_toArray, List.set_cons_zero, List.set_cons_succ]
          rfl
        refine one_ (i := 3) (N := some 9) #[true, true, true, true, false, false, false, true, false, false] rfl rfl (by kernel_rfl) (by decide) (fun K hK => ?_)
        refine rgoes_ Tryd.func54 (by kernel_rfl) rfl #[.agg #[.int .u64 a, .int .u64 b], .int .u64 c] (by rfl) rfl rfl (by (try simp only [List.map_toArray, List.map_cons, List.map_nil]); first | done | rfl) ?_
        refine (hR.out _ (B0.trans (BW.mono B0.size))).mono ?_
        rintro e W9 ⟨⟨ht, rfl⟩ | ⟨ht, pv, rfl⟩, hb⟩
        rotate_left
        · exact Or.inr ⟨_, rfl, rfl, Or.inr ⟨ht, pv, rfl⟩, B0.trans ((q_on BW BW.size hb).mono B0.size)⟩
        refine Or.inl ⟨_, rfl, ?_⟩
        replace BW := q_on BW BW.size hb
        replace h7 := q_blk h7 hb
        clear hb
        refine hK.out _ _ ⟨(blk_cell (q_blk z1 BW) 0).trans rfl, (blk_cell (q_blk z1 BW) 1).trans rfl, (blk_cell (q_blk z2 BW) 0).trans rfl⟩ (fun hHeld => ?_)
        clear hK K
        refine norm_ (a' := ?_) ?_ ?_
        rotate_left
        · show Act.put _ (some 9) _ = _
          simp only [Act.put, List.setIfInBounds_toArray, List.set_cons_zero, List.set_cons_succ, i64_w, i32_w]
          rfl
        refine pure_ (i := 4) (N := some 5) (v := ?_) (a' := ?_) #[true, true, true, true, true, false, false, true, false, false] rfl rfl (by kernel_rfl) (fun _ _ _ h => h) (Or.inl ⟨by rfl, ?_⟩) ?_ ?_
        rotate_left
        · intro w'
          go_simp
          with_reducible rfl
        rotate_left
        · simp only [Act.put, List.setIfInBounds_toArray, List.set_cons_zero, List.set_cons_succ, i64_w, i32_w]
          rfl
        refine pure_ (i := 5) (N := some 10) (v := ?_) (a' := ?_) #[true, true, true, true, true, true, false, true, false, false] rfl rfl (by kernel_rfl) (fun _ _ _ h => h) (Or.inl ⟨by rfl, ?_⟩) ?_ ?_
        rotate_left
        · intro w'
          go_simp
          with_reducible rfl
        rotate_left
        · simp only [Act.put, List.setIfInBounds_toArray, List.set_cons_zero, List.set_cons_succ, i64_w, i32_w]
          rfl
        refine pure_ (i := 6) (N := some 11) (v := ?_) (a' := ?_) #[true, true, true, true, true, true, true, true, false, false] rfl rfl (by kernel_rfl) (fun _ _ _ h => h) (Or.inl ⟨by rfl, ?_⟩) ?_ ?_
        rotate_left
        · intro w'
          go_simp
          with_reducible rfl
        rotate_left
        · simp only [Act.put, List.setIfInBounds_toArray, List.set_cons_zero, List.set_cons_succ, i64_w, i32_w]
          rfl
        exact norm_ (by first | (simp only [putAll, Act.put, List.setIfInBounds_toArray, List.set_cons_zero, List.set_cons_succ]; done) | (simp only [putAll, Act.put, List.setIfInBounds_toArray, List.set_cons_zero, List.set_cons_succ]; rfl)) (hJ1_3_7 g7 _ ⟨BW, ht, l7, h7⟩)
    · skip
      rintro g7 W ⟨BW, ht⟩
      replace BW : Below W0.heap.size W0 W := BW
      have hHeld : W.cell? ⟨p, 0, none⟩ = some (.int .u64 a) ∧ W.cell? ⟨p, 1, none⟩ = some (.int .u64 b) ∧ W.cell? ⟨q, 0, none⟩ = some (.int .u64 c) := ⟨(blk_cell (q_blk z1 BW) 0).trans rfl, (blk_cell (q_blk z1 BW) 1).trans rfl, (blk_cell (q_blk z2 BW) 0).trans rfl⟩
      refine norm_ (a' := ?_) ?_ ?_
      rotate_left
      · simp only [putAll, Act.put, List.setIfInBounds_toArray, List.set_cons_zero, List.set_cons_succ]
        rfl
      refine one_ (i := 7) (N := some 3) #[true, true, true, true, true, true, true, true, false, false] rfl rfl (by kernel_rfl) (by decide) (fun K hK => ?_)
      refine value_ (w1 := ?_) (v := ?_) (by rfl) rfl ?_ ?_
      rotate_left 2
      · go_simp
        constructor
        · rfl
        · rfl
      refine hK.out _ _ ⟨(blk_cell (blk_alloc (q_blk z1 BW) _) 0).trans rfl, (blk_cell (blk_alloc (q_blk z1 BW) _) 1).trans rfl, (blk_cell (blk_alloc (q_blk z2 BW) _) 0).trans rfl⟩ (fun hHeld => ?_)
      clear hK K
      refine norm_ (a' := ?_) ?_ ?_
      rotate_left
      · show Act.put _ (some 3) _ = _
        simp only [Act.put, List.setIfInBounds_toArray, List.set_cons_zero, List.set_cons_succ, i64_w, i32_w]
        rfl
      exact norm_ (by first | (simp only [putAll, Act.put, List.setIfInBounds_toArray, List.set_cons_zero, List.set_cons_succ]; done) | (simp only [putAll, Act.put, List.setIfInBounds_toArray, List.set_cons_zero, List.set_cons_succ]; rfl)) (hJ1_3_7 _ _ ⟨(BW.trans (((Below.refl _ _).alloc (Nat.le_refl _) _).mono BW.size)), ht, BW.size, (MapKept.heap_alloc _ _).1⟩)
  rintro g7 W ⟨BW, ht, l7, h7⟩
  replace BW : Below W0.heap.size W0 W := BW
  replace h7 : W.heap[g7]? = some (.cells #[.int .u64 0, .int .u64 0] 65 (0, 0)) := h7
  replace l7 : W0.heap.size ≤ g7 := l7
  have hHeld : W.cell? ⟨p, 0, none⟩ = some (.int .u64 a) ∧ W.cell? ⟨p, 1, none⟩ = some (.int .u64 b) ∧ W.cell? ⟨q, 0, none⟩ = some (.int .u64 c) := ⟨(blk_cell (q_blk z1 BW) 0).trans rfl, (blk_cell (q_blk z1 BW) 1).trans rfl, (blk_cell (q_blk z2 BW) 0).trans rfl⟩
  refine norm_ (a' := ?_) ?_ ?_
  rotate_left
  · simp only [putAll, Act.put, List.setIfInBounds_toArray, List.set_cons_zero, List.set_cons_succ]
    rfl
  refine one_ (i := 8) (N := none) #[true, true, true, true, true, true, true, true, true, false] rfl rfl (by kernel_rfl) (by decide) (fun K hK => ?_)
  have c0 : W.cell? ⟨g7, 0, none⟩ = some (.int .u64 0) := (blk_cell h7 0).trans rfl
  have c1 : W.cell? ⟨g7, 1, none⟩ = some (.int .u64 0) := (blk_cell h7 1).trans rfl
  have f0 : W.frozen? ⟨g7, 0, none⟩ = false := blk_frozen h7 0
  have f1 : W.frozen? ⟨g7, 1, none⟩ = false := blk_frozen h7 1
  refine skip_ (w1 := ?_) (by rfl) rfl ?_ ?_
  rotate_left
  · go_simp
    rfl
  clear c0 c1 f0 f1
  replace BW : Below W0.heap.size W0 ((W.setCell ⟨g7, 0, none⟩ (.int .u64 r1)).setCell ⟨g7, 1, none⟩ (.int .u64 r2)) := (BW.setCell (p := ⟨g7, 0, none⟩) l7 _).setCell (p := ⟨g7, 1, none⟩) l7 _
  replace h7 := q_set2 h7 (.int .u64 r1) (.int .u64 r2)
  refine hK.out _ _ ⟨(blk_cell (q_blk z1 BW) 0).trans rfl, (blk_cell (q_blk z1 BW) 1).trans rfl, (blk_cell (q_blk z2 BW) 0).trans rfl⟩ (fun hHeld => ?_)
  clear hK K
  refine pure_ (i := 9) (N := some 4) (v := ?_) (a' := ?_) #[true, true, true, true, true, true, true, true, true, true] rfl rfl (by kernel_rfl) (fun _ _ _ h => h) (Or.inl ⟨by rfl, ?_⟩) ?_ ?_
  rotate_left
  · intro w'
    go_simp
    with_reducible rfl
  rotate_left
  · simp only [Act.put, List.setIfInBounds_toArray, List.set_cons_zero, List.set_cons_succ, i64_w, i32_w]
    rfl
  refine done_ (by kernel_rfl) ?_
  generalize ((W.setCell ⟨g7, 0, none⟩ (.int .u64 r1)).setCell ⟨g7, 1, none⟩ (.int .u64 r2)) = W3 at BW h7 ⊢
  have c0 : W3.cell? ⟨g7, 0, none⟩ = some (.int .u64 r1) := (blk_cell h7 0).trans rfl
  have c1 : W3.cell? ⟨g7, 1, none⟩ = some (.int .u64 r2) := (blk_cell h7 1).trans rfl
  go_wp2_with fail
  refine (impl_wide.calls r1 r2 r1 r2 _ rfl).mono ?_
  rintro e W9 ⟨rfl, hb⟩
  replace BW := q_on BW BW.size hb
  clear hb c0 c1
  have zz := q_blk zg BW
  have c0 : W9.cell? ⟨g, 0, none⟩ = some (.int .u64 0) := (blk_cell zz 0).trans rfl
  have c1 : W9.cell? ⟨g, 1, none⟩ = some (.int .u64 0) := (blk_cell zz 1).trans rfl
  have c2 : W9.cell? ⟨g, 2, none⟩ = some (.int .u64 0) := (blk_cell zz 2).trans rfl
  have c3 : W9.cell? ⟨g, 3, none⟩ = some (.int .u64 0) := (blk_cell zz 3).trans rfl
  have f0 : W9.frozen? ⟨g, 0, none⟩ = false := blk_frozen zz 0
  have f1 : W9.frozen? ⟨g, 1, none⟩ = false := blk_frozen zz 1
  have f2 : W9.frozen? ⟨g, 2, none⟩ = false := blk_frozen zz 2
  have f3 : W9.frozen? ⟨g, 3, none⟩ = false := blk_frozen zz 3
  go_wp2
  subst hg
  refine bodyPost_ret (v := .agg #[.int .u64 r1, .int .u64 r2, .int .u64 r3, .int .u64 0]) (by simp [results, Tryd.results53, go_sem, c0, c1, c2, c3]) rfl ⟨Or.inl ⟨ht, rfl⟩, ?_⟩
  exact ((((B0.trans (BW.mono B0.size)).setCell (p := ⟨w.heap.size, 0, none⟩) (Nat.le_refl _) _).setCell (p := ⟨w.heap.size, 1, none⟩) (Nat.le_refl _) _).setCell (p := ⟨w.heap.size, 2, none⟩) (Nat.le_refl _) _).setCell (p := ⟨w.heap.size, 3, none⟩) (Nat.le_refl _) _
def impl_WideQuoRem64.f (k : Nat) (a0_0 a0_1 a1 : Int) : Option (Int × Int × Int × Bool) :=
  if a1 = 0 then (if 0 ≤ a0_1 then some (0, 0, 0, false) else none) else (uint128_Uint128_QuoRem64.f k a0_0 a0_1 a1).bind fun r => some (r.1, r.2.1, r.2.2, true)
theorem impl_WideQuoRem64.mono : ∀ a0 a1 a2 k, LeO (impl_WideQuoRem64.f k a0 a1 a2) (impl_WideQuoRem64.f (k + 1) a0 a1 a2) := by
  intro a0 a1 a2 k
  unfold impl_WideQuoRem64.f
  split
  · exact LeO.refl _
  · exact LeO.bind (uint128_Uint128_QuoRem64.mono a0 a1 a2 k) (fun _ => LeO.refl _)
set_option maxHeartbeats 4000000 in
set_option maxRecDepth 100000 in
theorem impl_WideQuoRem64.calls (k : Nat) (a0_0 : Int) (a0_1 : Int) (a1 : Int) (r1 : Int) (r2 : Int) (r3 : Int) (r4 : Bool) (w : World) (h : impl_WideQuoRem64.f k a0_0 a0_1 a1 = some (r1, r2, r3, r4)) (HZ : GlobE w) :
    Calls Tryd.prog 27 #[.agg #[.int .u64 a0_0, .int .u64 a0_1], .int .u64 a1] w fun e w' => e = .returned (.tuple #[(.agg #[.int .u64 r1, .int .u64 r2]), .int .u64 r3, .bool r4]) ∧ Below w.heap.size w w' := by
  have hmf : ∀ (fn : Fn) (first cap : Array Value) (w : World), (Instr.makeFunc fn first cap).run Tryd.prog w = .ok (.func fn first cap) w := fun _ _ _ _ => rfl
  have hR : ∀ W : World, Below w.heap.size w W → Calls Tryd.prog 54 #[.agg #[.int .u64 a0_0, .int .u64 a0_1], .int .u64 a1] W fun e W' => ((r4 = true ∧ e = .returned (.tuple #[(.agg #[.int .u64 r1, .int .u64 r2]), .int .u64 r3])) ∨ (r4 = false ∧ ∃ pv, e = .panicked [{ v := .iface 104 pv, recovered := false }])) ∧ Below W.heap.size W W' := by
    intro W hW
    unfold impl_WideQuoRem64.f at h
    split at h
    · rename_i hlt
      split at h
      case isFalse => cases h
      obtain ⟨rfl, rfl, rfl, rfl⟩ : (0 : Int) = r1 ∧ (0 : Int) = r2 ∧ (0 : Int) = r3 ∧ false = r4 := by simpa using h
      rw [hlt]
      refine (QuoRem64_panics a0_0 a0_1 W (decide_eq_false (by omega)) (GlobE.below HZ hW)).mono ?_
      rintro e w' ⟨⟨pv, rfl⟩, hb⟩
      exact ⟨Or.inr ⟨rfl, pv, rfl⟩, hb⟩
    · obtain ⟨⟨s1, s2, s3⟩, h1, h2⟩ := Option.bind_eq_some_iff.mp h
      obtain ⟨rfl, rfl, rfl, rfl⟩ : s1 = r1 ∧ s2 = r2 ∧ s3 = r3 ∧ true = r4 := by simpa using h2
      refine (uint128_Uint128_QuoRem64.calls k _ _ _ _ _ _ W h1).mono ?_
      rintro e w' ⟨rfl, hb⟩
      exact ⟨Or.inl ⟨rfl, rfl⟩, hb⟩
  have hx : r4 = false → r1 = 0 ∧ r2 = 0 ∧ r3 = 0 ∧ 0 = (0 : Int) := by
    intro ht
    unfold impl_WideQuoRem64.f at h
    split at h
    · split at h
      case isFalse => cases h
      obtain ⟨rfl, rfl, rfl, rfl⟩ : (0 : Int) = r1 ∧ (0 : Int) = r2 ∧ (0 : Int) = r3 ∧ false = r4 := by simpa using h
      exact ⟨rfl, rfl, rfl, rfl⟩
    · obtain ⟨⟨s1, s2, s3⟩, h1, h2⟩ := Option.bind_eq_some_iff.mp h
      obtain ⟨rfl, rfl, rfl, rfl⟩ : s1 = r1 ∧ s2 = r2 ∧ s3 = r3 ∧ true = r4 := by simpa using h2
      cases ht
  have BN : Below w.heap.size w (((w.alloc (.cells #[.int .u64 a0_0, .int .u64 a0_1] 24)).alloc (.cells #[.int .u64 a1] 22)).alloc (.cells #[.int .u64 0, .int .u64 0] 24)) := (((Below.refl w.heap.size w).alloc (Nat.le_refl _) _).alloc (by simp) _).alloc (by simp; omega) _
  have y0 : (((w.alloc (.cells #[.int .u64 a0_0, .int .u64 a0_1] 24)).alloc (.cells #[.int .u64 a1] 22)).alloc (.cells #[.int .u64 0, .int .u64 0] 24)).heap[w.heap.size]? = some (.cells #[.int .u64 a0_0, .int .u64 a0_1] 24) := (blk_alloc (blk_alloc (MapKept.heap_alloc w _).1 _) _)
  have y1 : (((w.alloc (.cells #[.int .u64 a0_0, .int .u64 a0_1] 24)).alloc (.cells #[.int .u64 a1] 22)).alloc (.cells #[.int .u64 0, .int .u64 0] 24)).heap[w.heap.size + 1]? = some (.cells #[.int .u64 a1] 22) := by
    have e := (MapKept.heap_alloc (w.alloc (.cells #[.int .u64 a0_0, .int .u64 a0_1] 24)) (.cells #[.int .u64 a1] 22)).1
    rw [World.size_alloc] at e
    exact (blk_alloc e _)
  have key : Calls Tryd.prog 52 #[.func (.func 53) #[] #[.pointer (some ⟨w.heap.size, 0, none⟩), .pointer (some ⟨w.heap.size + 1, 0, none⟩)]] (((w.alloc (.cells #[.int .u64 a0_0, .int .u64 a0_1] 24)).alloc (.cells #[.int .u64 a1] 22)).alloc (.cells #[.int .u64 0, .int .u64 0] 24)) fun e w' => e = .returned (.tuple #[(.agg #[.int .u64 r1, .int .u64 r2, .int .u64 r3, .int .u64 0]), .bool r4]) ∧ Below (((w.alloc (.cells #[.int .u64 a0_0, .int .u64 a0_1] 24)).alloc (.cells #[.int .u64 a1] 22)).alloc (.cells #[.int .u64 0, .int .u64 0] 24)).heap.size (((w.alloc (.cells #[.int .u64 a0_0, .int .u64 a0_1] 24)).alloc (.cells #[.int .u64 a1] 22)).alloc (.cells #[.int .u64 0, .int .u64 0] 24)) w' := by
    refine tried4 53 _ r4 r1 r2 r3 0 _ (fun _ _ => rfl) hx (Lib.hid fun W hW => ?_)
    exact WideQuoRem64_1 a0_0 a0_1 a1 r1 r2 r3 r4 _ _ W (Lib.hid fun W' hW' => hR W' (BN.trans ((hW.trans (hW'.mono hW.size)).mono BN.size))) (q_blk y0 hW) (q_blk y1 hW)
  have HK := Lib.hid key
  clear key h HZ hR hx y0 y1 BN
  go_enter Tryd.func27, Tryd.ntmps27
  go_wp2_with fail
  refine HK.out.mono ?_
  rintro e w1 ⟨rfl, hb⟩
  have hs := hb.size
  simp only [World.size_alloc] at hs
  have g2 : w1.heap[w.heap.size + 1 + 1]? = some (.cells #[.int .u64 0, .int .u64 0] 24) := (hb.block _ (by simp only [World.size_alloc]; omega)).trans (by
    have e := (MapKept.heap_alloc ((w.alloc (.cells #[.int .u64 a0_0, .int .u64 a0_1] 24)).alloc (.cells #[.int .u64 a1] 22)) (.cells #[.int .u64 0, .int .u64 0] 24)).1
    rw [World.size_alloc, World.size_alloc] at e
    exact e)
  have B : Below w.heap.size w w1 := ((((Below.refl w.heap.size w).alloc (Nat.le_refl _) _).alloc (by simp) _).alloc (by simp; omega) _).trans (hb.mono (by simp only [World.size_alloc]; omega))
  have HB := Lib.hid B
  have G2 := Lib.hid g2
  clear hb g2 HK B
  go_wp2_with fail
  obtain ⟨y1, y2, y3⟩ := q_box w1 (.cells #[.int .u64 r1, .int .u64 r2, .int .u64 r3, .int .u64 0] 75)
  have h7 := y1
  have h4 := blk_alloc G2.out (.cells #[.int .u64 r1, .int .u64 r2, .int .u64 r3, .int .u64 0] 75)
  have BW : Below w.heap.size w (w1.alloc (.cells #[.int .u64 r1, .int .u64 r2, .int .u64 r3, .int .u64 0] 75)) := HB.out.trans (y2.mono HB.out.size)
  have n4 : w1.heap.size ≠ w.heap.size + 1 + 1 := by omega
  have l4 : w.heap.size ≤ w.heap.size + 1 + 1 := by omega
  clear y1 y2 y3 hs HB G2 
  generalize (w1.alloc (.cells #[.int .u64 r1, .int .u64 r2, .int .u64 r3, .int .u64 0] 75)) = W7 at BW h7 h4 ⊢
  generalize w1.heap.size = g7 at h7 n4 ⊢
  generalize w.heap.size + 1 + 1 = g4 at h4 n4 l4 ⊢
  refine start_ (n := 9) (S := fun w' => w'.cell? ⟨g7, 0, none⟩ = some (.int .u64 r1) ∧ w'.cell? ⟨g7, 1, none⟩ = some (.int .u64 r2) ∧ w'.cell? ⟨g7, 2, none⟩ = some (.int .u64 r3) ∧ w'.cell? ⟨g7, 3, none⟩ = some (.int .u64 0)) (ds := []) #[false, false, false, false, false, false, false, false, false] (by kernel_rfl) rfl rfl ⟨(blk_cell h7 0).trans rfl, (blk_cell h7 1).trans rfl, (blk_cell h7 2).trans rfl, (blk_cell h7 3).trans rfl⟩ (fun hHeld => ?_)
  replace BW := BW.drew
  replace h4 := blk_drew h4
  replace h7 := blk_drew h7
  generalize W7.drew = W8 at BW h4 h7 hHeld ⊢
  refine pure_ (i := 0) (N := some 13) (v := ?_) (a' := ?_) #[true, false, false, false, false, false, false, false, false] rfl rfl (by kernel_rfl) (fun _ _ _ h => h) (Or.inl ⟨by rfl, ?_⟩) ?_ ?_
  rotate_left
  · intro w'
    go_simp
    with_reducible rfl
  rotate_left
  · simp only [Act.put, List.setIfInBounds_toArray, List.set_cons_zero, List.set_cons_succ, i64_w, i32_w]
    rfl
  refine pure_ (i := 2) (N := some 15) (v := ?_) (a' := ?_) #[true, false, true, false, false, false, false, false, false] rfl rfl (by kernel_rfl) (fun _ _ _ h => h) (Or.inl ⟨by rfl, ?_⟩) ?_ ?_
  rotate_left
  · intro w'
    go_simp
    with_reducible rfl
  rotate_left
  · simp only [Act.put, List.setIfInBounds_toArray, List.set_cons_zero, List.set_cons_succ, i64_w, i32_w]
    rfl
  refine pure_ (i := 3) (N := some 16) (v := ?_) (a' := ?_) #[true, false, true, true, false, false, false, false, false] rfl rfl (by kernel_rfl) (fun _ _ _ h => h) (Or.inl ⟨by rfl, ?_⟩) ?_ ?_
  rotate_left
  · intro w'
    go_simp
    with_reducible rfl
  rotate_left
  · simp only [Act.put, List.setIfInBounds_toArray, List.set_cons_zero, List.set_cons_succ, i64_w, i32_w]
    rfl
  refine pure_ (i := 5) (N := some 18) (v := ?_) (a' := ?_) #[true, false, true, true, false, true, false, false, false] rfl rfl (by kernel_rfl) (fun _ _ _ h => h) (Or.inl ⟨by rfl, ?_⟩) ?_ ?_
  rotate_left
  · intro w'
    go_simp
    with_reducible rfl
  rotate_left
  · simp only [Act.put, List.setIfInBounds_toArray, List.set_cons_zero, List.set_cons_succ, i64_w, i32_w]
    rfl
  refine take_ (i := 1) (N := some 14) (v := ?_) (a' := ?_) #[true, true, true, true, false, true, false, false, false] rfl rfl (by kernel_rfl) (fun _ _ _ h => h) (Or.inl ⟨by rfl, ?_⟩) hHeld ?_ ?_
  rotate_left
  · rintro w' ⟨s0, s1, s2, s3⟩
    go_simp
    with_reducible rfl
  rotate_left
  · simp only [Act.put, List.setIfInBounds_toArray, List.set_cons_zero, List.set_cons_succ, i64_w, i32_w]
    rfl
  refine take_ (i := 4) (N := some 17) (v := ?_) (a' := ?_) #[true, true, true, true, true, true, false, false, false] rfl rfl (by kernel_rfl) (fun _ _ _ h => h) (Or.inl ⟨by rfl, ?_⟩) hHeld ?_ ?_
  rotate_left
  · rintro w' ⟨s0, s1, s2, s3⟩
    go_simp
    with_reducible rfl
  rotate_left
  · simp only [Act.put, List.setIfInBounds_toArray, List.set_cons_zero, List.set_cons_succ, i64_w, i32_w]
    rfl
  refine one_ (i := 6) (N := none) #[true, true, true, true, true, true, true, false, false] rfl rfl (by kernel_rfl) (by decide) (fun K hK => ?_)
  have c0 : W8.cell? ⟨g4, 0, none⟩ = some (.int .u64 0) := (blk_cell h4 0).trans rfl
  have c1 : W8.cell? ⟨g4, 1, none⟩ = some (.int .u64 0) := (blk_cell h4 1).trans rfl
  have f0 : W8.frozen? ⟨g4, 0, none⟩ = false := blk_frozen h4 0
  have f1 : W8.frozen? ⟨g4, 1, none⟩ = false := blk_frozen h4 1
  refine skip_ (w1 := ?_) (by rfl) rfl ?_ ?_
  rotate_left
  · go_simp
    rfl
  clear c0 c1 f0 f1
  replace BW : Below w.heap.size w ((W8.setCell ⟨g4, 0, none⟩ (.int .u64 r1)).setCell ⟨g4, 1, none⟩ (.int .u64 r2)) := (BW.setCell (p := ⟨g4, 0, none⟩) l4 _).setCell (p := ⟨g4, 1, none⟩) l4 _
  replace h4 := q_set2 h4 (.int .u64 r1) (.int .u64 r2)
  replace h7 := q_far2 h7 n4 (.int .u64 r1) (.int .u64 r2)
  refine hK.out _ _ ⟨(blk_cell h7 0).trans rfl, (blk_cell h7 1).trans rfl, (blk_cell h7 2).trans rfl, (blk_cell h7 3).trans rfl⟩ (fun hHeld => ?_)
  clear hK K
  refine pure_ (i := 7) (N := some 5) (v := ?_) (a' := ?_) #[true, true, true, true, true, true, true, true, false] rfl rfl (by kernel_rfl) (fun _ _ _ h => h) (Or.inl ⟨by rfl, ?_⟩) ?_ ?_
  rotate_left
  · intro w'
    go_simp
    with_reducible rfl
  rotate_left
  · simp only [Act.put, List.setIfInBounds_toArray, List.set_cons_zero, List.set_cons_succ, i64_w, i32_w]
    rfl
  refine pure_ (i := 8) (N := some 6) (v := ?_) (a' := ?_) #[true, true, true, true, true, true, true, true, true] rfl rfl (by kernel_rfl) (fun _ _ _ h => h) (Or.inl ⟨by rfl, ?_⟩) ?_ ?_
  rotate_left
  · intro w'
    go_simp
    with_reducible rfl
  rotate_left
  · simp only [Act.put, List.setIfInBounds_toArray, List.set_cons_zero, List.set_cons_succ, i64_w, i32_w]
    rfl
  refine done_ (by kernel_rfl) ?_
  go_wp2
  generalize ((W8.setCell ⟨g4, 0, none⟩ (.int .u64 r1)).setCell ⟨g4, 1, none⟩ (.int .u64 r2)) = W9 at BW h4 ⊢
  have c0 : W9.cell? ⟨g4, 0, none⟩ = some (.int .u64 r1) := (blk_cell h4 0).trans rfl
  have c1 : W9.cell? ⟨g4, 1, none⟩ = some (.int .u64 r2) := (blk_cell h4 1).trans rfl
  refine bodyPost_ret (v := .tuple #[(.agg #[.int .u64 r1, .int .u64 r2]), .int .u64 r3, .bool r4]) (by simp [results, Tryd.results27, go_sem, c0, c1]) rfl ⟨rfl, BW⟩
/-! ### uint128_Uint128_Div64: function 57 -/
def uint128_Uint128_Div64.f (k : Nat) (a0_0 : Int) (a0_1 : Int) (a1 : Int) : Option (Int × Int) := (uint128_Uint128_QuoRem64.f k a0_0 a0_1 a1).bind fun bt328 => (some (bt328.1, bt328.2.1))
theorem uint128_Uint128_Div64.mono : ∀ a0 a1 a2 k, LeO (uint128_Uint128_Div64.f k a0 a1 a2) (uint128_Uint128_Div64.f (k + 1) a0 a1 a2) := by
  intro a0 a1 a2 k
  unfold uint128_Uint128_Div64.f
  repeat' first
      | (with_reducible exact uint128_Uint128_QuoRem64.mono _ _ _ _)
      | (with_reducible exact LeO.refl _)
      | (with_reducible exact LeO.none _)
      | (with_reducible refine LeO.ite ?_ ?_)
      | (with_reducible refine LeO.bind ?_ (fun _ => ?_))
      | exact uint128_Uint128_QuoRem64.mono _ _ _ _
      | exact LeO.none _
      | refine LeO.ite ?_ ?_
      | refine LeO.bind ?_ (fun _ => ?_)
set_option maxHeartbeats 8000000 in
set_option maxRecDepth 100000 in
theorem uint128_Uint128_Div64.calls (k : Nat) (a0_0 : Int) (a0_1 : Int) (a1 : Int) (r1 : Int) (r2 : Int) (w : World) (h : uint128_Uint128_Div64.f k a0_0 a0_1 a1 = some (r1, r2)) :
    Calls Tryd.prog 57 #[.agg #[.int .u64 a0_0, .int .u64 a0_1], .int .u64 a1] w fun e w' => e = .returned (.agg #[.int .u64 r1, .int .u64 r2]) ∧ Below w.heap.size w w' := by
  have hu65 := Tryd.underlying65
  have HB := Aside0.mk (Below.refl w.heap.size w)
  have H : ((uint128_Uint128_QuoRem64.f k a0_0 a0_1 a1).bind fun bt328 => (some (bt328.1, bt328.2.1))) = some (r1, r2) := h
  clear h
  replace H := Option.bind_eq_some_iff.mp H
  obtain ⟨⟨t328, t329, t330⟩, A30, H⟩ := H
  replace H : (some (t328, t329)) = some (r1, r2) := H
  have A3 := Aside0.mk A30
  clear A30
  simp only [Option.some.injEq, Prod.mk.injEq] at H
  obtain ⟨rfl, rfl⟩ := H
  go_enter Tryd.func57, Tryd.ntmps57
  go_wp2_with (first | ((with_reducible refine gate_dst (N := 2) rfl ?_); refine box_event ?hg (N := 2) ?hd (cs := #[.int .u64 a0_0, .int .u64 a0_1]) (t := 65) ?hr ?_; (case hd => rfl); (case hg => rfl); (case hr => first | (go_simp; done) | (go_simp; rfl)); intro gb326 hg w4 hbox hb; have n0_ := Aside0.mk (below_step (by repeat (first | (with_reducible first | exact HB.out | apply below_alloc | apply pw_below_drewN | apply below_drew1) | exact HB.out)) hb); have n1_ := Aside0.mk (hbox); have n2_ := Aside0.mk ((by rw [hg]; exact (below_size (by repeat (first | (with_reducible first | exact HB.out | apply below_alloc | apply pw_below_drewN | apply below_drew1) | exact HB.out))) : w.heap.size ≤ gb326)); have n3_ := Aside0.mk ((by rw [hg]; exact (below_size (by repeat (first | (with_reducible first | exact HB.out | apply below_alloc | apply pw_below_drewN | apply below_drew1) | exact HB.out))) : w.heap.size ≤ gb326)); clear HB; have HB := n0_; have BK326 := n1_; have GW326 := n2_; have GE326 := n3_; clear n0_ n1_ n2_ n3_; clear hb hbox hg) | ((with_reducible refine gate_dst (N := 4) rfl ?_); refine box_event ?hg (N := 4) ?hd (cs := #[.int .u64 0, .int .u64 0]) (t := 65) ?hr ?_; (case hd => rfl); (case hg => rfl); (case hr => first | (go_simp; done) | (go_simp; rfl)); intro gb327 hg w5 hbox hb; have n0_ := Aside0.mk (blk_below (g := gb326) (o := .cells #[.int .u64 a0_0, .int .u64 a0_1] 65 (0, 0)) (by exact BK326.out) hb); have n1_ := Aside0.mk (below_step (by repeat (first | (with_reducible first | exact HB.out | apply below_alloc | apply pw_below_drewN | apply below_drew1 | refine below_set ?_ GE326.out) | exact HB.out)) hb); have n2_ := Aside0.mk (hbox); have n3_ := Aside0.mk ((by rw [hg]; exact (below_size (by repeat (first | (with_reducible first | exact HB.out | apply below_alloc | apply pw_below_drewN | apply below_drew1 | refine below_set ?_ GE326.out) | exact HB.out))) : w.heap.size ≤ gb327)); have n4_ := Aside0.mk ((by rw [hg]; exact (below_size (by repeat (first | (with_reducible first | exact HB.out | apply below_alloc | apply pw_below_drewN | apply below_drew1 | refine below_set ?_ GE326.out) | exact HB.out))) : w.heap.size ≤ gb327)); have n5_ := Aside0.mk ((by rw [hg]; exact Nat.ne_of_lt (blk_lt (g := gb326) (o := .cells #[.int .u64 a0_0, .int .u64 a0_1] 65 (0, 0)) (by exact BK326.out)) : gb326 ≠ gb327)); have n6_ := Aside0.mk ((by rw [hg]; exact Nat.ne_of_gt (blk_lt (g := gb326) (o := .cells #[.int .u64 a0_0, .int .u64 a0_1] 65 (0, 0)) (by exact BK326.out)) : gb327 ≠ gb326)); clear BK326; clear HB; have BK326 := n0_; have HB := n1_; have BK327 := n2_; have GW327 := n3_; have GE327 := n4_; have NB326_327 := n5_; have NB327_326 := n6_; clear n0_ n1_ n2_ n3_ n4_ n5_ n6_; clear hb hbox hg; have hnb6 := NB326_327.out; have hnc6 := NB327_326.out; have hcz7_0 : w5.cell? ⟨gb326, 0, none⟩ = some (.int .u64 a0_0) := (blk_cell BK326.out 0).trans rfl; have hcz7_1 : w5.cell? ⟨gb326, 1, none⟩ = some (.int .u64 a0_1) := (blk_cell BK326.out 1).trans rfl; have hfz7_0 := blk_frozen BK326.out 0; have hfz7_1 := blk_frozen BK326.out 1) | ((with_reducible refine gate_callee (f := 54) rfl ?_); refine goesL_ (some 10) rfl rfl Tryd.func54 (by kernel_rfl) rfl #[.agg #[.int .u64 a0_0, .int .u64 a0_1], .int .u64 a1] rfl (by (try simp only [List.map_toArray, List.map_cons, List.map_nil]); first | done | rfl | (simp only [List.length_drop, List.length_take]; rfl)) ?_; (with_reducible refine (uint128_Uint128_QuoRem64.calls k a0_0 a0_1 a1 t328 t329 t330 _ A3.out).mono ?_); rintro e w8 ⟨rfl, hb⟩; refine ⟨_, rfl, ?_⟩; have n0_ := Aside0.mk (blk_below (g := gb326) (o := .cells #[.int .u64 a0_0, .int .u64 a0_1] 65 (0, 0)) (by exact BK326.out) hb); have n1_ := Aside0.mk (blk_below (g := gb327) (o := .cells #[.int .u64 0, .int .u64 0] 65 (0, 0)) (by exact BK327.out) hb); have n2_ := Aside0.mk (below_step (by repeat (first | (with_reducible first | exact HB.out | apply below_alloc | apply pw_below_drewN | apply below_drew1 | refine below_set ?_ GE326.out | refine below_set ?_ GE327.out) | exact HB.out)) hb); clear BK326; clear BK327; clear HB; have BK326 := n0_; have BK327 := n1_; have HB := n2_; clear n0_ n1_ n2_; (try clear hb); (try clear hb2); (try clear hk); (try clear hi)) | ((with_reducible refine gate_dst (N := 5) rfl ?_); refine box_event ?hg (N := 5) ?hd (cs := #[.int .u64 0, .int .u64 0]) (t := 65) ?hr ?_; (case hd => rfl); (case hg => rfl); (case hr => first | (go_simp; done) | (go_simp; rfl)); intro gb331 hg w9 hbox hb; have n0_ := Aside0.mk (blk_below (g := gb326) (o := .cells #[.int .u64 a0_0, .int .u64 a0_1] 65 (0, 0)) (by exact BK326.out) hb); have n1_ := Aside0.mk (blk_below (g := gb327) (o := .cells #[.int .u64 0, .int .u64 0] 65 (0, 0)) (by exact BK327.out) hb); have n2_ := Aside0.mk (below_step (by repeat (first | (with_reducible first | exact HB.out | apply below_alloc | apply pw_below_drewN | apply below_drew1 | refine below_set ?_ GE326.out | refine below_set ?_ GE327.out) | exact HB.out)) hb); have n3_ := Aside0.mk (hbox); have n4_ := Aside0.mk ((by rw [hg]; exact (below_size (by repeat (first | (with_reducible first | exact HB.out | apply below_alloc | apply pw_below_drewN | apply below_drew1 | refine below_set ?_ GE326.out | refine below_set ?_ GE327.out) | exact HB.out))) : w.heap.size ≤ gb331)); have n5_ := Aside0.mk ((by rw [hg]; exact (below_size (by repeat (first | (with_reducible first | exact HB.out | apply below_alloc | apply pw_below_drewN | apply below_drew1 | refine below_set ?_ GE326.out | refine below_set ?_ GE327.out) | exact HB.out))) : w.heap.size ≤ gb331)); have n6_ := Aside0.mk ((by rw [hg]; exact Nat.ne_of_lt (blk_lt (g := gb326) (o := .cells #[.int .u64 a0_0, .int .u64 a0_1] 65 (0, 0)) (by exact BK326.out)) : gb326 ≠ gb331)); have n7_ := Aside0.mk ((by rw [hg]; exact Nat.ne_of_gt (blk_lt (g := gb326) (o := .cells #[.int .u64 a0_0, .int .u64 a0_1] 65 (0, 0)) (by exact BK326.out)) : gb331 ≠ gb326)); have n8_ := Aside0.mk ((by rw [hg]; exact Nat.ne_of_lt (blk_lt (g := gb327) (o := .cells #[.int .u64 0, .int .u64 0] 65 (0, 0)) (by exact BK327.out)) : gb327 ≠ gb331)); have n9_ := Aside0.mk ((by rw [hg]; exact Nat.ne_of_gt (blk_lt (g := gb327) (o := .cells #[.int .u64 0, .int .u64 0] 65 (0, 0)) (by exact BK327.out)) : gb331 ≠ gb327)); clear BK326; clear BK327; clear HB; have BK326 := n0_; have BK327 := n1_; have HB := n2_; have BK331 := n3_; have GW331 := n4_; have GE331 := n5_; have NB326_331 := n6_; have NB331_326 := n7_; have NB327_331 := n8_; have NB331_327 := n9_; clear n0_ n1_ n2_ n3_ n4_ n5_ n6_ n7_ n8_ n9_; clear hb hbox hg; have hnb10 := NB331_326.out; have hnc10 := NB326_331.out; have hnb11 := NB331_327.out; have hnc11 := NB327_331.out; have hcz12_0 : w9.cell? ⟨gb331, 0, none⟩ = some (.int .u64 0) := (blk_cell BK331.out 0).trans rfl; have hcz12_1 : w9.cell? ⟨gb331, 1, none⟩ = some (.int .u64 0) := (blk_cell BK331.out 1).trans rfl; have hfz12_0 := blk_frozen BK331.out 0; have hfz12_1 := blk_frozen BK331.out 1; have hcz13_0 : w9.cell? ⟨gb327, 0, none⟩ = some (.int .u64 0) := (blk_cell BK327.out 0).trans rfl; have hcz13_1 : w9.cell? ⟨gb327, 1, none⟩ = some (.int .u64 0) := (blk_cell BK327.out 1).trans rfl; have hfz13_0 := blk_frozen BK327.out 0; have hfz13_1 := blk_frozen BK327.out 1))
  refine bodyPost_ret (results_cell_row rfl _ _ gb327 65 #[.int .u64 t328, .int .u64 t329] (0, 0) _ rfl (by (with_reducible repeat (first | refine blk_drewN ?_ _ | refine blk_drew ?_ | refine blk_alloc ?_ _)); refine blk_put (cs := #[.int .u64 t328, .int .u64 0]) ?_ 1 _ rfl; (with_reducible repeat (first | refine blk_drewN ?_ _ | refine blk_drew ?_ | refine blk_alloc ?_ _)); refine blk_put (cs := #[.int .u64 0, .int .u64 0]) ?_ 0 _ rfl; (with_reducible repeat (first | refine blk_drewN ?_ _ | refine blk_drew ?_ | refine blk_alloc ?_ _)); refine blk_far ?_ NB327_331.out _; (with_reducible repeat (first | refine blk_drewN ?_ _ | refine blk_drew ?_ | refine blk_alloc ?_ _)); refine blk_far ?_ NB327_331.out _; (with_reducible repeat (first | refine blk_drewN ?_ _ | refine blk_drew ?_ | refine blk_alloc ?_ _)); exact BK327.out) Tryd.underlying65 rfl (by kernel_rfl)) rfl ?_
  exact ⟨by first | rfl | (simp [errW_none, errW_some] <;> rfl) | (simp [*, errW_none, errW_some] <;> rfl), by repeat (first | (with_reducible first | exact HB.out | apply below_alloc | apply pw_below_drewN | apply below_drew1 | refine below_set ?_ GE326.out | refine below_set ?_ GE327.out | refine below_set ?_ GE331.out) | exact HB.out)⟩
/-! ### impl_WideDiv64: function 28 -/
set_option maxHeartbeats 4000000 in
set_option maxRecDepth 100000 in
theorem uint128_Uint128_Div64.panics (a b : Int) (w : World) (hb : decide (b < 0) = false) (HZ : GlobE w) :
    Calls Tryd.prog 57 #[.agg #[.int .u64 a, .int .u64 b], .int .u64 0] w fun e w' => (∃ pv, e = .panicked [{ v := .iface 104 pv, recovered := false }]) ∧ Below w.heap.size w w' := by
  have HE := Lib.hid HZ
  have HBB := Lib.hid hb
  clear HZ hb
  go_enter Tryd.func57, Tryd.ntmps57
  go_wp2_with fail
  have B0 : Below w.heap.size w ((w.alloc (.cells #[.int .u64 a, .int .u64 b] 65)).alloc (.cells #[.int .u64 0, .int .u64 0] 65)) := ((Below.refl w.heap.size w).alloc (Nat.le_refl _) _).alloc (by simp) _
  refine (QuoRem64_panics a b _ HBB.out (GlobE.below HE.out B0)).mono ?_
  rintro e W2 ⟨⟨pv, rfl⟩, hb2⟩
  exact ⟨rfl, ⟨_, rfl⟩, B0.trans (hb2.mono B0.size)⟩
theorem tried2_idle (p q : Addr) (w : World) :
    CallsD Tryd.prog 105 #[.pointer (some p), .pointer (some q)] .returning w fun e u' w' => e = .returned (.tuple #[]) ∧ u' = .returning ∧ w' = w := by
  refine callsD_of_wpS Tryd.func105 rfl fun c₀ cs hu => ?_
  apply wpS_seq
  apply wpS_region
  simp [wpOpsS, go_sem, recoverD, hu, Tryd.ntmps105, Exit.thenS]
  refine wpS_cond (t := false) (by simp [Act.eval, Array.replicate]) ?_
  simp only [Bool.false_eq_true, if_false]
  refine wpS_of_wp (wp_skip ?_)
  cases c₀
  simp_all [bodyPostS, results, Tryd.results105]
theorem tried2_catch (g : Nat) (y0 y1 : Int) (y : Bool) (u : TypeId) (pv : Value) (older : List PanicEntry) (w : World)
    (hg : w.heap[g]? = some (.cells #[.int .u64 y0, .int .u64 y1] 24 (0, 0))) (hh : w.heap[g + 1]? = some (.cells #[.bool y] 4 (0, 0))) :
    CallsD Tryd.prog 105 #[.pointer (some ⟨g, 0, none⟩), .pointer (some ⟨g + 1, 0, none⟩)] (.panicking ({ v := .iface u pv, recovered := false } :: older)) w fun e u' w' =>
      e = .returned (.tuple #[]) ∧ u' = .panicking ({ v := .iface u pv, recovered := true } :: older) ∧
      w'.heap[g]? = some (.cells #[.int .u64 0, .int .u64 0] 24 (0, 0)) ∧ w'.heap[g + 1]? = some (.cells #[.bool false] 4 (0, 0)) ∧ Below g w w' := by
  have hp0 : w.cell? ⟨g, 0, none⟩ = some (.int .u64 y0) := by rw [blk_cell hg]; rfl
  have hp1 : w.cell? ⟨g, 1, none⟩ = some (.int .u64 y1) := by rw [blk_cell hg]; rfl
  have hq : w.cell? ⟨g + 1, 0, none⟩ = some (.bool y) := by rw [blk_cell hh]; rfl
  have fp0 : w.frozen? ⟨g, 0, none⟩ = false := blk_frozen hg 0
  have fp1 : w.frozen? ⟨g, 1, none⟩ = false := blk_frozen hg 1
  have fq : w.frozen? ⟨g + 1, 0, none⟩ = false := blk_frozen hh 0
  have lg := blk_lt hg
  have lh := blk_lt hh
  have HG := Lib.hid hg
  have HH := Lib.hid hh
  clear hg hh
  refine callsD_of_wpS Tryd.func105 rfl fun c₀ cs hu => ?_
  apply wpS_seq
  apply wpS_region
  simp [wpOpsS, go_sem, recoverD, hu, Tryd.ntmps105, Exit.thenS]
  refine wpS_cond (t := true) (by simp [Act.eval, Array.replicate]) ?_
  simp only [if_true]
  refine wpS_of_wp ?_
  simp [Array.replicate]
  go_wp2
  have k0 := (blk_set (blk_set HG.out 0 (.int .u64 0)) 1 (.int .u64 0))
  have k1 := blk_far (p := ⟨g + 1, 0, none⟩) k0 (by simp) (.bool false)
  have k2 := (blk_far (p := ⟨g, 1, none⟩) (blk_far (p := ⟨g, 0, none⟩) HH.out (by simp) (.int .u64 0)) (by simp) (.int .u64 0))
  have k3 := blk_set k2 0 (.bool false)
  have HF : (((w.setCell ⟨g, 0, none⟩ (.int .u64 0)).setCell ⟨g, 1, none⟩ (.int .u64 0)).setCell ⟨g + 1, 0, none⟩ (Value.bool false)).heap.size = w.heap.size := by simp [World.setCell]
  have f1 := blk_alloc k1 (.cells #[.int .u64 0, .int .u64 0] 24)
  have f2 := blk_alloc k3 (.cells #[.int .u64 0, .int .u64 0] 24)
  have f3 : Below g w ((((w.setCell ⟨g, 0, none⟩ (.int .u64 0)).setCell ⟨g, 1, none⟩ (.int .u64 0)).setCell ⟨g + 1, 0, none⟩ (Value.bool false)).alloc (.cells #[.int .u64 0, .int .u64 0] 24)) :=
    (((((Below.refl g w).setCell (p := ⟨g, 0, none⟩) (Nat.le_refl _) _).setCell (p := ⟨g, 1, none⟩) (Nat.le_refl _) _).setCell (p := ⟨g + 1, 0, none⟩) (by simp) _).alloc (by rw [HF]; omega) _)
  exact ⟨rfl, _, rfl, .tuple #[], results_none rfl _ _ _, rfl, rfl, f1, f2, f3⟩
set_option maxHeartbeats 4000000 in
set_option maxRecDepth 100000 in
theorem tried2 (fid : Nat) (caps : Array Value) (t : Bool) (x0 x1 : Int) (w : World)
    (hcf : ∀ (args : Array Value) (w : World), (callFunc fid args).run Tryd.prog w = .ok (.enter fid args) w) (hx : t = false → x0 = 0 ∧ x1 = 0)
    (hcl : Hid (∀ W : World, Below w.heap.size w W → Calls Tryd.prog fid caps W fun e W' => ((t = true ∧ e = .returned (.agg #[.int .u64 x0, .int .u64 x1])) ∨ (t = false ∧ ∃ pv, e = .panicked [{ v := .iface 104 pv, recovered := false }])) ∧ Below W.heap.size W W')) :
    Calls Tryd.prog 55 #[.func (.func fid) #[] caps] w fun e w' => e = .returned (.tuple #[(.agg #[.int .u64 x0, .int .u64 x1]), .bool t]) ∧ Below w.heap.size w w' := by
  have hmf : ∀ (fn : Fn) (first cap : Array Value) (w : World), (Instr.makeFunc fn first cap).run Tryd.prog w = .ok (.func fn first cap) w := fun _ _ _ _ => rfl
  have HX := Lib.hid hx
  clear hx
  go_enter_defers Tryd.func55, Tryd.ntmps55
  go_wp2_with fail
  refine (hcl.out _ (((Below.refl w.heap.size w).alloc (Nat.le_refl _) _).alloc (by simp) _)).mono ?_
  rintro e w1 ⟨ho, hb⟩
  have g0 : w1.heap[w.heap.size]? = some (.cells #[.int .u64 0, .int .u64 0] 24 (0, 0)) := (hb.block _ (by simp; omega)).trans (blk_alloc (MapKept.heap_alloc w _).1 _)
  have g1 : w1.heap[w.heap.size + 1]? = some (.cells #[.bool false] 4 (0, 0)) := (hb.block _ (by simp)).trans (by have := (MapKept.heap_alloc (w.alloc (.cells #[.int .u64 0, .int .u64 0] 24)) (Obj.cells #[Value.bool false] 4)).1; simpa using this)
  have B : Below w.heap.size w w1 := (((Below.refl w.heap.size w).alloc (Nat.le_refl _) _).alloc (by simp) _).trans (hb.mono (by simp; omega))
  have HB := Lib.hid B
  have G0 := Lib.hid g0
  have G1 := Lib.hid g1
  clear hb g0 g1 B
  obtain ⟨rfl, rfl⟩ | ⟨rfl, pv, rfl⟩ := ho
  · have c0 : w1.cell? ⟨w.heap.size, 0, none⟩ = some (.int .u64 0) := by rw [blk_cell G0.out]; rfl
    have c1 : w1.cell? ⟨w.heap.size, 1, none⟩ = some (.int .u64 0) := by rw [blk_cell G0.out]; rfl
    have cb : w1.cell? ⟨w.heap.size + 1, 0, none⟩ = some (.bool false) := by rw [blk_cell G1.out]; rfl
    have z0 : w1.frozen? ⟨w.heap.size, 0, none⟩ = false := blk_frozen G0.out 0
    have z1 : w1.frozen? ⟨w.heap.size, 1, none⟩ = false := blk_frozen G0.out 1
    have zb : w1.frozen? ⟨w.heap.size + 1, 0, none⟩ = false := blk_frozen G1.out 0
    go_wp2
    have B := HB.out
    have k0 := blk_far (p := ⟨w.heap.size + 1, 0, none⟩) (blk_set (blk_set G0.out 0 (.int .u64 x0)) 1 (.int .u64 x1)) (by simp) (.bool true)
    have k1 := blk_set (blk_far (p := ⟨w.heap.size, 1, none⟩) (blk_far (p := ⟨w.heap.size, 0, none⟩) G1.out (by simp) (.int .u64 x0)) (by simp) (.int .u64 x1)) 0 (.bool true)
    refine leaves_cons (f := 105) (args := #[.pointer (some ⟨w.heap.size, 0, none⟩), .pointer (some ⟨w.heap.size + 1, 0, none⟩)]) (by simp) (by simp [go_sem]) ?_
    refine (tried2_idle _ _ _).mono ?_
    rintro e u' w'' ⟨rfl, rfl, rfl⟩
    refine ⟨.tuple #[(.agg #[.int .u64 x0, .int .u64 x1]), .bool true], ?_, rfl, ((B.setCell (p := ⟨w.heap.size, 0, none⟩) (Nat.le_refl _) _).setCell (p := ⟨w.heap.size, 1, none⟩) (Nat.le_refl _) _).setCell (p := ⟨w.heap.size + 1, 0, none⟩) (by simp) _⟩
    have d0 := (blk_cell k0 0).trans (show _ = some (.int .u64 x0) from rfl)
    have d1 := (blk_cell k0 1).trans (show _ = some (.int .u64 x1) from rfl)
    have d2 := (blk_cell k1 0).trans (show _ = some (.bool true) from rfl)
    clear k0 k1
    generalize ((w1.setCell _ _).setCell _ _).setCell _ _ = W at d0 d1 d2 ⊢
    simp [results, Tryd.results55, go_sem, d0, d1, d2]
  · obtain ⟨rfl, rfl⟩ := HX.out rfl
    refine leaves_cons (f := 105) (args := #[.pointer (some ⟨w.heap.size, 0, none⟩), .pointer (some ⟨w.heap.size + 1, 0, none⟩)]) (by simp) (by simp [go_sem]) ?_
    refine (tried2_catch w.heap.size 0 0 false 104 pv [] w1 G0.out G1.out).mono ?_
    rintro e u' w2 ⟨rfl, rfl, k0, k1, hb2⟩
    refine ⟨.tuple #[(.agg #[.int .u64 0, .int .u64 0]), .bool false], ?_, rfl, HB.out.trans hb2⟩
    have d0 := (blk_cell k0 0).trans (show _ = some (.int .u64 0) from rfl)
    have d1 := (blk_cell k0 1).trans (show _ = some (.int .u64 0) from rfl)
    have d2 := (blk_cell k1 0).trans (show _ = some (.bool false) from rfl)
    clear k0 k1
    simp [results, Tryd.results55, go_sem, d0, d1, d2]
set_option maxHeartbeats 4000000 in
set_option maxRecDepth 100000 in
theorem WideDiv64_1 (a b c r1 r2 : Int) (t : Bool) (p q : Nat) (w : World)
    (hR : Hid (∀ W : World, Below w.heap.size w W → Calls Tryd.prog 57 #[.agg #[.int .u64 a, .int .u64 b], .int .u64 c] W fun e W' => ((t = true ∧ e = .returned (.agg #[.int .u64 r1, .int .u64 r2])) ∨ (t = false ∧ ∃ pv, e = .panicked [{ v := .iface 104 pv, recovered := false }])) ∧ Below W.heap.size W W'))
    (hp : w.heap[p]? = some (.cells #[.int .u64 a, .int .u64 b] 24 (0, 0))) (hq : w.heap[q]? = some (.cells #[.int .u64 c] 22 (0, 0))) :
    Calls Tryd.prog 56 #[.pointer (some ⟨p, 0, none⟩), .pointer (some ⟨q, 0, none⟩)] w fun e w' => ((t = true ∧ e = .returned (.agg #[.int .u64 r1, .int .u64 r2])) ∨ (t = false ∧ ∃ pv, e = .panicked [{ v := .iface 104 pv, recovered := false }])) ∧ Below w.heap.size w w' := by
  go_enter Tryd.func56, Tryd.ntmps56
  go_wp2_with fail
  obtain ⟨y1, y2, y3⟩ := q_box w (.cells #[.int .u64 0, .int .u64 0] 24)
  have k1 := blk_alloc hp (.cells #[.int .u64 0, .int .u64 0] 24)
  have k2 := blk_alloc hq (.cells #[.int .u64 0, .int .u64 0] 24)
  have HB2 := Lib.hid y2
  have n1 : p ≠ w.heap.size := Nat.ne_of_lt (blk_lt hp)
  have n2 : q ≠ w.heap.size := Nat.ne_of_lt (blk_lt hq)
  clear y2 y3 hp hq
  generalize hg : w.heap.size = g at y1 n1 n2 ⊢
  generalize w.alloc (.cells #[.int .u64 0, .int .u64 0] 24) = W00 at k1 k2 y1 HB2 ⊢
  refine start_ (n := 6) (S := fun w' => w'.cell? ⟨p, 0, none⟩ = some (.int .u64 a) ∧ w'.cell? ⟨p, 1, none⟩ = some (.int .u64 b) ∧ w'.cell? ⟨q, 0, none⟩ = some (.int .u64 c)) (ds := []) #[false, false, false, false, false, false] (by kernel_rfl) rfl rfl ⟨(blk_cell k1 0).trans rfl, (blk_cell k1 1).trans rfl, (blk_cell k2 0).trans rfl⟩ (fun hHeld => ?_)
  have z1 := blk_drew k1
  have z2 := blk_drew k2
  have zg := blk_drew y1
  have B0 : Below w.heap.size w W00.drew := HB2.out.drew
  clear k1 k2 y1 HB2
  generalize W00.drew = W0 at z1 z2 zg B0 hHeld ⊢
  have BW := Below.refl W0.heap.size W0
  refine take_ (i := 0) (N := some 3) (v := ?_) (a' := ?_) #[true, false, false, false, false, false] rfl rfl (by kernel_rfl) (fun _ _ _ h => h) (Or.inl ⟨by rfl, ?_⟩) hHeld ?_ ?_
  rotate_left
  · rintro w' ⟨s0, s1, s2⟩
    go_simp
    with_reducible rfl
  rotate_left
  · simp only [Act.put, List.setIfInBounds_toArray, List.set_cons_zero, List.set_cons_succ, i64_w, i32_w]
    rfl
  refine take_ (i := 2) (N := some 5) (v := ?_) (a' := ?_) #[true, false, true, false, false, false] rfl rfl (by kernel_rfl) (fun _ _ _ h => h) (Or.inl ⟨by rfl, ?_⟩) hHeld ?_ ?_
  rotate_left
  · rintro w' ⟨s0, s1, s2⟩
    go_simp
    with_reducible rfl
  rotate_left
  · simp only [Act.put, List.setIfInBounds_toArray, List.set_cons_zero, List.set_cons_succ, i64_w, i32_w]
    rfl
  refine one_ (i := 1) (N := some 4) #[true, true, true, false, false, false] rfl rfl (by kernel_rfl) (by decide) (fun K hK => ?_)
  refine goes_ Tryd.func46 (by kernel_rfl) rfl #[(.agg #[.int .u64 a, .int .u64 b])] (by rfl) rfl rfl (by (try simp only [List.map_toArray, List.map_cons, List.map_nil]); first | done | rfl) ?_
  refine (impl_Wide_u.calls a b a b _ rfl).mono ?_
  rintro e W9 ⟨rfl, hb⟩
  refine ⟨_, rfl, ?_⟩
  replace BW := q_on BW BW.size hb
  clear hb
  refine hK.out _ _ ⟨(blk_cell (q_blk z1 BW) 0).trans rfl, (blk_cell (q_blk z1 BW) 1).trans rfl, (blk_cell (q_blk z2 BW) 0).trans rfl⟩ (fun hHeld => ?_)
  clear hK K
  refine norm_ (a' := ?_) ?_ ?_
  rotate_left
  · show Act.put _ (some 4) _ = _
    simp only [Act.put, List.setIfInBounds_toArray, List.set_cons_zero, List.set_cons_succ, i64_w, i32_w]
    rfl
  refine one_ (i := 3) (N := some 6) #[true, true, true, true, false, false] rfl rfl (by kernel_rfl) (by decide) (fun K hK => ?_)
  refine rgoes_ Tryd.func57 (by kernel_rfl) rfl #[.agg #[.int .u64 a, .int .u64 b], .int .u64 c] (by rfl) rfl rfl (by (try simp only [List.map_toArray, List.map_cons, List.map_nil]); first | done | rfl) ?_
  refine (hR.out _ (B0.trans (BW.mono B0.size))).mono ?_
  rintro e W9 ⟨⟨ht, rfl⟩ | ⟨ht, pv, rfl⟩, hb⟩
  rotate_left
  · exact Or.inr ⟨_, rfl, rfl, Or.inr ⟨ht, pv, rfl⟩, B0.trans ((q_on BW BW.size hb).mono B0.size)⟩
  refine Or.inl ⟨_, rfl, ?_⟩
  replace BW := q_on BW BW.size hb
  clear hb
  refine hK.out _ _ ⟨(blk_cell (q_blk z1 BW) 0).trans rfl, (blk_cell (q_blk z1 BW) 1).trans rfl, (blk_cell (q_blk z2 BW) 0).trans rfl⟩ (fun hHeld => ?_)
  clear hK K
  refine norm_ (a' := ?_) ?_ ?_
  rotate_left
  · show Act.put _ (some 6) _ = _
    simp only [Act.put, List.setIfInBounds_toArray, List.set_cons_zero, List.set_cons_succ, i64_w, i32_w]
    rfl
  refine one_ (i := 4) (N := some 7) #[true, true, true, true, true, false] rfl rfl (by kernel_rfl) (by decide) (fun K hK => ?_)
  refine goes_ Tryd.func40 (by kernel_rfl) rfl #[(.agg #[.int .u64 r1, .int .u64 r2])] (by rfl) rfl rfl (by (try simp only [List.map_toArray, List.map_cons, List.map_nil]); first | done | rfl) ?_
  refine (impl_wide.calls r1 r2 r1 r2 _ rfl).mono ?_
  rintro e W9 ⟨rfl, hb⟩
  refine ⟨_, rfl, ?_⟩
  replace BW := q_on BW BW.size hb
  clear hb
  refine hK.out _ _ ⟨(blk_cell (q_blk z1 BW) 0).trans rfl, (blk_cell (q_blk z1 BW) 1).trans rfl, (blk_cell (q_blk z2 BW) 0).trans rfl⟩ (fun hHeld => ?_)
  clear hK K
  refine norm_ (a' := ?_) ?_ ?_
  rotate_left
  · show Act.put _ (some 7) _ = _
    simp only [Act.put, List.setIfInBounds_toArray, List.set_cons_zero, List.set_cons_succ, i64_w, i32_w]
    rfl
  refine one_ (i := 5) (N := none) #[true, true, true, true, true, true] rfl rfl (by kernel_rfl) (by decide) (fun K hK => ?_)
  have zz := q_blk zg BW
  have c0 : World.cell? _ ⟨g, 0, none⟩ = some (.int .u64 0) := (blk_cell zz 0).trans rfl
  have c1 : World.cell? _ ⟨g, 1, none⟩ = some (.int .u64 0) := (blk_cell zz 1).trans rfl
  have f0 : World.frozen? _ ⟨g, 0, none⟩ = false := blk_frozen zz 0
  have f1 : World.frozen? _ ⟨g, 1, none⟩ = false := blk_frozen zz 1
  refine skip_ (w1 := ?_) (by rfl) rfl ?_ ?_
  rotate_left
  · go_simp
    rfl
  refine hK.out _ _ ⟨(blk_cell (q_far2 (q_blk z1 BW) n1 _ _) 0).trans rfl, (blk_cell (q_far2 (q_blk z1 BW) n1 _ _) 1).trans rfl, (blk_cell (q_far2 (q_blk z2 BW) n2 _ _) 0).trans rfl⟩ (fun hHeld => ?_)
  clear hK K
  refine done_ (by kernel_rfl) ?_
  go_wp2
  subst hg
  refine bodyPost_ret (v := .agg #[.int .u64 r1, .int .u64 r2]) (by simp [results, Tryd.results56, go_sem, c0, c1]) rfl ⟨Or.inl ⟨ht, rfl⟩, ?_⟩
  exact ((B0.trans (BW.mono B0.size)).setCell (p := ⟨w.heap.size, 0, none⟩) (Nat.le_refl _) _).setCell (p := ⟨w.heap.size, 1, none⟩) (Nat.le_refl _) _
def impl_WideDiv64.f (k : Nat) (a0_0 a0_1 a1 : Int) : Option (Int × Int × Bool) :=
  if a1 = 0 then (if 0 ≤ a0_1 then some (0, 0, false) else none) else (uint128_Uint128_Div64.f k a0_0 a0_1 a1).bind fun r => some (r.1, r.2, true)
theorem impl_WideDiv64.mono : ∀ a0 a1 a2 k, LeO (impl_WideDiv64.f k a0 a1 a2) (impl_WideDiv64.f (k + 1) a0 a1 a2) := by
  intro a0 a1 a2 k
  unfold impl_WideDiv64.f
  split
  · exact LeO.refl _
  · exact LeO.bind (uint128_Uint128_Div64.mono a0 a1 a2 k) (fun _ => LeO.refl _)
set_option maxHeartbeats 4000000 in
set_option maxRecDepth 100000 in
theorem impl_WideDiv64.calls (k : Nat) (a0_0 : Int) (a0_1 : Int) (a1 : Int) (r1 : Int) (r2 : Int) (t : Bool) (w : World) (h : impl_WideDiv64.f k a0_0 a0_1 a1 = some (r1, r2, t)) (HZ : GlobE w) :
    Calls Tryd.prog 28 #[.agg #[.int .u64 a0_0, .int .u64 a0_1], .int .u64 a1] w fun e w' => e = .returned (.tuple #[(.agg #[.int .u64 r1, .int .u64 r2]), .bool t]) ∧ Below w.heap.size w w' := by
  have hmf : ∀ (fn : Fn) (first cap : Array Value) (w : World), (Instr.makeFunc fn first cap).run Tryd.prog w = .ok (.func fn first cap) w := fun _ _ _ _ => rfl
  have hR : ∀ W : World, Below w.heap.size w W → Calls Tryd.prog 57 #[.agg #[.int .u64 a0_0, .int .u64 a0_1], .int .u64 a1] W fun e W' => ((t = true ∧ e = .returned (.agg #[.int .u64 r1, .int .u64 r2])) ∨ (t = false ∧ ∃ pv, e = .panicked [{ v := .iface 104 pv, recovered := false }])) ∧ Below W.heap.size W W' := by
    intro W hW
    unfold impl_WideDiv64.f at h
    split at h
    · rename_i hlt
      split at h
      case isFalse => cases h
      obtain ⟨rfl, rfl, rfl⟩ : (0 : Int) = r1 ∧ (0 : Int) = r2 ∧ false = t := by simpa using h
      rw [hlt]
      refine (uint128_Uint128_Div64.panics a0_0 a0_1 W (decide_eq_false (by omega)) (GlobE.below HZ hW)).mono ?_
      rintro e w' ⟨⟨pv, rfl⟩, hb⟩
      exact ⟨Or.inr ⟨rfl, pv, rfl⟩, hb⟩
    · obtain ⟨⟨s1, s2⟩, h1, h2⟩ := Option.bind_eq_some_iff.mp h
      obtain ⟨rfl, rfl, rfl⟩ : s1 = r1 ∧ s2 = r2 ∧ true = t := by simpa using h2
      refine (uint128_Uint128_Div64.calls k _ _ _ _ _ W h1).mono ?_
      rintro e w' ⟨rfl, hb⟩
      exact ⟨Or.inl ⟨rfl, rfl⟩, hb⟩
  have hx : t = false → r1 = 0 ∧ r2 = 0 := by
    intro ht
    unfold impl_WideDiv64.f at h
    split at h
    · split at h
      case isFalse => cases h
      obtain ⟨rfl, rfl, rfl⟩ : (0 : Int) = r1 ∧ (0 : Int) = r2 ∧ false = t := by simpa using h
      exact ⟨rfl, rfl⟩
    · obtain ⟨⟨s1, s2⟩, h1, h2⟩ := Option.bind_eq_some_iff.mp h
      obtain ⟨rfl, rfl, rfl⟩ : s1 = r1 ∧ s2 = r2 ∧ true = t := by simpa using h2
      cases ht
  have BN : Below w.heap.size w (((w.alloc (.cells #[.int .u64 a0_0, .int .u64 a0_1] 24)).alloc (.cells #[.int .u64 a1] 22)).alloc (.cells #[.int .u64 0, .int .u64 0] 24)) := (((Below.refl w.heap.size w).alloc (Nat.le_refl _) _).alloc (by simp) _).alloc (by simp; omega) _
  have y0 : (((w.alloc (.cells #[.int .u64 a0_0, .int .u64 a0_1] 24)).alloc (.cells #[.int .u64 a1] 22)).alloc (.cells #[.int .u64 0, .int .u64 0] 24)).heap[w.heap.size]? = some (.cells #[.int .u64 a0_0, .int .u64 a0_1] 24) := blk_alloc (blk_alloc (MapKept.heap_alloc w _).1 _) _
  have y1 : (((w.alloc (.cells #[.int .u64 a0_0, .int .u64 a0_1] 24)).alloc (.cells #[.int .u64 a1] 22)).alloc (.cells #[.int .u64 0, .int .u64 0] 24)).heap[w.heap.size + 1]? = some (.cells #[.int .u64 a1] 22) := by
    have e := (MapKept.heap_alloc (w.alloc (.cells #[.int .u64 a0_0, .int .u64 a0_1] 24)) (.cells #[.int .u64 a1] 22)).1
    rw [World.size_alloc] at e
    exact blk_alloc e _
  have key : Calls Tryd.prog 55 #[.func (.func 56) #[] #[.pointer (some ⟨w.heap.size, 0, none⟩), .pointer (some ⟨w.heap.size + 1, 0, none⟩)]] (((w.alloc (.cells #[.int .u64 a0_0, .int .u64 a0_1] 24)).alloc (.cells #[.int .u64 a1] 22)).alloc (.cells #[.int .u64 0, .int .u64 0] 24)) fun e w' => e = .returned (.tuple #[(.agg #[.int .u64 r1, .int .u64 r2]), .bool t]) ∧ Below (((w.alloc (.cells #[.int .u64 a0_0, .int .u64 a0_1] 24)).alloc (.cells #[.int .u64 a1] 22)).alloc (.cells #[.int .u64 0, .int .u64 0] 24)).heap.size (((w.alloc (.cells #[.int .u64 a0_0, .int .u64 a0_1] 24)).alloc (.cells #[.int .u64 a1] 22)).alloc (.cells #[.int .u64 0, .int .u64 0] 24)) w' := by
    refine tried2 56 _ t r1 r2 _ (fun _ _ => rfl) hx (Lib.hid fun W hW => ?_)
    exact WideDiv64_1 a0_0 a0_1 a1 r1 r2 t _ _ W (Lib.hid fun W' hW' => hR W' (BN.trans ((hW.trans (hW'.mono hW.size)).mono BN.size))) (q_blk y0 hW) (q_blk y1 hW)
  have HK := Lib.hid key
  have HB0 := Lib.hid BN
  clear key h HZ hR hx y0 y1 BN
  go_enter Tryd.func28, Tryd.ntmps28
  go_wp2_with fail
  refine HK.out.mono ?_
  rintro e w1 ⟨rfl, hb⟩
  have hs := hb.size
  simp only [World.size_alloc] at hs
  have g2 : w1.heap[w.heap.size + 1 + 1]? = some (.cells #[.int .u64 0, .int .u64 0] 24) := (hb.block _ (by simp only [World.size_alloc]; omega)).trans (by
    have e := (MapKept.heap_alloc ((w.alloc (.cells #[.int .u64 a0_0, .int .u64 a0_1] 24)).alloc (.cells #[.int .u64 a1] 22)) (.cells #[.int .u64 0, .int .u64 0] 24)).1
    rw [World.size_alloc, World.size_alloc] at e
    exact e)
  have v0 : w1.cell? ⟨w.heap.size + 1 + 1, 0, none⟩ = some (.int .u64 0) := by rw [blk_cell g2]; rfl
  have v1 : w1.cell? ⟨w.heap.size + 1 + 1, 1, none⟩ = some (.int .u64 0) := by rw [blk_cell g2]; rfl
  have z0 : w1.frozen? ⟨w.heap.size + 1 + 1, 0, none⟩ = false := blk_frozen g2 0
  have z1 : w1.frozen? ⟨w.heap.size + 1 + 1, 1, none⟩ = false := blk_frozen g2 1
  have HB := Lib.hid (HB0.out.trans (hb.mono HB0.out.size))
  clear hb g2 HK
  go_wp2
  refine bodyPost_ret (v := .tuple #[(.agg #[.int .u64 r1, .int .u64 r2]), .bool t]) (by simp [results, Tryd.results28, go_sem, v0, v1]) rfl ⟨rfl, (HB.out.setCell (p := ⟨w.heap.size + 1 + 1, 0, none⟩) (by simp; omega) _).setCell (p := ⟨w.heap.size + 1 + 1, 1, none⟩) (by simp; omega) _⟩
/-! ### impl_tried_uint64: function 58 -/
theorem triedU_idle (p q : Addr) (w : World) :
    CallsD Tryd.prog 106 #[.pointer (some p), .pointer (some q)] .returning w fun e u' w' => e = .returned (.tuple #[]) ∧ u' = .returning ∧ w' = w := by
  refine callsD_of_wpS Tryd.func106 rfl fun c₀ cs hu => ?_
  apply wpS_seq
  apply wpS_region
  simp [wpOpsS, go_sem, recoverD, hu, Tryd.ntmps106, Exit.thenS]
  refine wpS_cond (t := false) (by simp [Act.eval, Array.replicate]) ?_
  simp only [Bool.false_eq_true, if_false]
  refine wpS_of_wp (wp_skip ?_)
  cases c₀
  simp_all [bodyPostS, results, Tryd.results106]
theorem triedU_catch (g : Nat) (y0 : Int) (y : Bool) (u : TypeId) (pv : Value) (older : List PanicEntry) (w : World)
    (hg : w.heap[g]? = some (.cells #[.int .u64 y0] 22 (0, 0))) (hh : w.heap[g + 1]? = some (.cells #[.bool y] 4 (0, 0))) :
    CallsD Tryd.prog 106 #[.pointer (some ⟨g, 0, none⟩), .pointer (some ⟨g + 1, 0, none⟩)] (.panicking ({ v := .iface u pv, recovered := false } :: older)) w fun e u' w' =>
      e = .returned (.tuple #[]) ∧ u' = .panicking ({ v := .iface u pv, recovered := true } :: older) ∧
      w'.heap[g]? = some (.cells #[.int .u64 0] 22 (0, 0)) ∧ w'.heap[g + 1]? = some (.cells #[.bool false] 4 (0, 0)) ∧ Below g w w' := by
  have hp0 : w.cell? ⟨g, 0, none⟩ = some (.int .u64 y0) := by rw [blk_cell hg]; rfl
  have hq : w.cell? ⟨g + 1, 0, none⟩ = some (.bool y) := by rw [blk_cell hh]; rfl
  have fp0 : w.frozen? ⟨g, 0, none⟩ = false := blk_frozen hg 0
  have fq : w.frozen? ⟨g + 1, 0, none⟩ = false := blk_frozen hh 0
  have lg := blk_lt hg
  have lh := blk_lt hh
  have HG := Lib.hid hg
  have HH := Lib.hid hh
  clear hg hh
  refine callsD_of_wpS Tryd.func106 rfl fun c₀ cs hu => ?_
  apply wpS_seq
  apply wpS_region
  simp [wpOpsS, go_sem, recoverD, hu, Tryd.ntmps106, Exit.thenS]
  refine wpS_cond (t := true) (by simp [Act.eval, Array.replicate]) ?_
  simp only [if_true]
  refine wpS_of_wp ?_
  simp [Array.replicate]
  go_wp2
  have k0 := (blk_set HG.out 0 (.int .u64 0))
  have k1 := blk_far (p := ⟨g + 1, 0, none⟩) k0 (by simp) (.bool false)
  have k2 := (blk_far (p := ⟨g, 0, none⟩) HH.out (by simp) (.int .u64 0))
  have k3 := blk_set k2 0 (.bool false)
  have f3 : Below g w (((w.setCell ⟨g, 0, none⟩ (.int .u64 0)).setCell ⟨g + 1, 0, none⟩ (Value.bool false))) :=
    ((((Below.refl g w).setCell (p := ⟨g, 0, none⟩) (Nat.le_refl _) _).setCell (p := ⟨g + 1, 0, none⟩) (by simp) _))
  exact ⟨rfl, _, rfl, .tuple #[], results_none rfl _ _ _, rfl, rfl, k1, k3, f3⟩
set_option maxHeartbeats 4000000 in
set_option maxRecDepth 100000 in
theorem triedU (fid : Nat) (caps : Array Value) (t : Bool) (x0 : Int) (w : World)
    (hcf : ∀ (args : Array Value) (w : World), (callFunc fid args).run Tryd.prog w = .ok (.enter fid args) w) (hx : t = false → x0 = 0)
    (hcl : Hid (∀ W : World, Below w.heap.size w W → Calls Tryd.prog fid caps W fun e W' => ((t = true ∧ e = .returned (.int .u64 x0)) ∨ (t = false ∧ ∃ pv, e = .panicked [{ v := .iface 104 pv, recovered := false }])) ∧ Below W.heap.size W W')) :
    Calls Tryd.prog 58 #[.func (.func fid) #[] caps] w fun e w' => e = .returned (.tuple #[(.int .u64 x0), .bool t]) ∧ Below w.heap.size w w' := by
  have hmf : ∀ (fn : Fn) (first cap : Array Value) (w : World), (Instr.makeFunc fn first cap).run Tryd.prog w = .ok (.func fn first cap) w := fun _ _ _ _ => rfl
  have HX := Lib.hid hx
  clear hx
  go_enter_defers Tryd.func58, Tryd.ntmps58
  go_wp2_with fail
  refine (hcl.out _ (((Below.refl w.heap.size w).alloc (Nat.le_refl _) _).alloc (by simp) _)).mono ?_
  rintro e w1 ⟨ho, hb⟩
  have g0 : w1.heap[w.heap.size]? = some (.cells #[.int .u64 0] 22 (0, 0)) := (hb.block _ (by simp; omega)).trans (blk_alloc (MapKept.heap_alloc w _).1 _)
  have g1 : w1.heap[w.heap.size + 1]? = some (.cells #[.bool false] 4 (0, 0)) := (hb.block _ (by simp)).trans (by have := (MapKept.heap_alloc (w.alloc (.cells #[.int .u64 0] 22)) (Obj.cells #[Value.bool false] 4)).1; simpa using this)
  have B : Below w.heap.size w w1 := (((Below.refl w.heap.size w).alloc (Nat.le_refl _) _).alloc (by simp) _).trans (hb.mono (by simp; omega))
  have HB := Lib.hid B
  have G0 := Lib.hid g0
  have G1 := Lib.hid g1
  clear hb g0 g1 B
  obtain ⟨rfl, rfl⟩ | ⟨rfl, pv, rfl⟩ := ho
  · have c0 : w1.cell? ⟨w.heap.size, 0, none⟩ = some (.int .u64 0) := by rw [blk_cell G0.out]; rfl
    have cb : w1.cell? ⟨w.heap.size + 1, 0, none⟩ = some (.bool false) := by rw [blk_cell G1.out]; rfl
    have z0 : w1.frozen? ⟨w.heap.size, 0, none⟩ = false := blk_frozen G0.out 0
    have zb : w1.frozen? ⟨w.heap.size + 1, 0, none⟩ = false := blk_frozen G1.out 0
    go_wp2
    have B := HB.out
    have k0 := blk_far (p := ⟨w.heap.size + 1, 0, none⟩) (blk_set G0.out 0 (.int .u64 x0)) (by simp) (.bool true)
    have k1 := blk_set (blk_far (p := ⟨w.heap.size, 0, none⟩) G1.out (by simp) (.int .u64 x0)) 0 (.bool true)
    refine leaves_cons (f := 106) (args := #[.pointer (some ⟨w.heap.size, 0, none⟩), .pointer (some ⟨w.heap.size + 1, 0, none⟩)]) (by simp) (by simp [go_sem]) ?_
    refine (triedU_idle _ _ _).mono ?_
    rintro e u' w'' ⟨rfl, rfl, rfl⟩
    refine ⟨.tuple #[(.int .u64 x0), .bool true], ?_, rfl, (B.setCell (p := ⟨w.heap.size, 0, none⟩) (Nat.le_refl _) _).setCell (p := ⟨w.heap.size + 1, 0, none⟩) (by simp) _⟩
    have d0 := (blk_cell k0 0).trans (show _ = some (.int .u64 x0) from rfl)
    have d1 := (blk_cell k1 0).trans (show _ = some (.bool true) from rfl)
    clear k0 k1
    generalize (w1.setCell _ _).setCell _ _ = W at d0 d1 ⊢
    simp [results, Tryd.results58, go_sem, d0, d1]
  · obtain ⟨rfl⟩ := HX.out rfl
    refine leaves_cons (f := 106) (args := #[.pointer (some ⟨w.heap.size, 0, none⟩), .pointer (some ⟨w.heap.size + 1, 0, none⟩)]) (by simp) (by simp [go_sem]) ?_
    refine (triedU_catch w.heap.size 0 false 104 pv [] w1 G0.out G1.out).mono ?_
    rintro e u' w2 ⟨rfl, rfl, k0, k1, hb2⟩
    refine ⟨.tuple #[(.int .u64 0), .bool false], ?_, rfl, HB.out.trans hb2⟩
    have d0 := (blk_cell k0 0).trans (show _ = some (.int .u64 0) from rfl)
    have d1 := (blk_cell k1 0).trans (show _ = some (.bool false) from rfl)
    clear k0 k1
    simp [results, Tryd.results58, go_sem, d0, d1]
/-! ### uint128_Uint128_Mod64: function 60 -/
def uint128_Uint128_Mod64.f (k : Nat) (a0_0 : Int) (a0_1 : Int) (a1 : Int) : Option (Int) := (uint128_Uint128_QuoRem64.f k a0_0 a0_1 a1).bind fun bt333 => (some bt333.2.2)
theorem uint128_Uint128_Mod64.mono : ∀ a0 a1 a2 k, LeO (uint128_Uint128_Mod64.f k a0 a1 a2) (uint128_Uint128_Mod64.f (k + 1) a0 a1 a2) := by
  intro a0 a1 a2 k
  unfold uint128_Uint128_Mod64.f
  repeat' first
      | (with_reducible exact uint128_Uint128_QuoRem64.mono _ _ _ _)
      | (with_reducible exact LeO.refl _)
      | (with_reducible exact LeO.none _)
      | (with_reducible refine LeO.ite ?_ ?_)
      | (with_reducible refine LeO.bind ?_ (fun _ => ?_))
      | exact uint128_Uint128_QuoRem64.mono _ _ _ _
      | exact LeO.none _
      | refine LeO.ite ?_ ?_
      | refine LeO.bind ?_ (fun _ => ?_)
set_option maxHeartbeats 8000000 in
set_option maxRecDepth 100000 in
theorem uint128_Uint128_Mod64.calls (k : Nat) (a0_0 : Int) (a0_1 : Int) (a1 : Int) (r : Int) (w : World) (h : uint128_Uint128_Mod64.f k a0_0 a0_1 a1 = some r) :
    Calls Tryd.prog 60 #[.agg #[.int .u64 a0_0, .int .u64 a0_1], .int .u64 a1] w fun e w' => e = .returned (.int .u64 r) ∧ Below w.heap.size w w' := by
  have hu65 := Tryd.underlying65
  have HB := Aside0.mk (Below.refl w.heap.size w)
  have H : ((uint128_Uint128_QuoRem64.f k a0_0 a0_1 a1).bind fun bt333 => (some bt333.2.2)) = some r := h
  clear h
  replace H := Option.bind_eq_some_iff.mp H
  obtain ⟨⟨t333, t334, t335⟩, A30, H⟩ := H
  replace H : (some t335) = some r := H
  have A3 := Aside0.mk A30
  clear A30
  obtain rfl := Option.some.inj H
  go_enter Tryd.func60, Tryd.ntmps60
  go_wp2_with (first | ((with_reducible refine gate_dst (N := 2) rfl ?_); refine box_event ?hg (N := 2) ?hd (cs := #[.int .u64 a0_0, .int .u64 a0_1]) (t := 65) ?hr ?_; (case hd => rfl); (case hg => rfl); (case hr => first | (go_simp; done) | (go_simp; rfl)); intro gb332 hg w4 hbox hb; have n0_ := Aside0.mk (below_step (by repeat (first | (with_reducible first | exact HB.out | apply below_alloc | apply pw_below_drewN | apply below_drew1) | exact HB.out)) hb); have n1_ := Aside0.mk (hbox); have n2_ := Aside0.mk ((by rw [hg]; exact (below_size (by repeat (first | (with_reducible first | exact HB.out | apply below_alloc | apply pw_below_drewN | apply below_drew1) | exact HB.out))) : w.heap.size ≤ gb332)); have n3_ := Aside0.mk ((by rw [hg]; exact (below_size (by repeat (first | (with_reducible first | exact HB.out | apply below_alloc | apply pw_below_drewN | apply below_drew1) | exact HB.out))) : w.heap.size ≤ gb332)); clear HB; have HB := n0_; have BK332 := n1_; have GW332 := n2_; have GE332 := n3_; clear n0_ n1_ n2_ n3_; clear hb hbox hg; have hcz5_0 : w4.cell? ⟨gb332, 0, none⟩ = some (.int .u64 a0_0) := (blk_cell BK332.out 0).trans rfl; have hcz5_1 : w4.cell? ⟨gb332, 1, none⟩ = some (.int .u64 a0_1) := (blk_cell BK332.out 1).trans rfl; have hfz5_0 := blk_frozen BK332.out 0; have hfz5_1 := blk_frozen BK332.out 1) | ((with_reducible refine gate_callee (f := 54) rfl ?_); refine goesL_ (some 8) rfl rfl Tryd.func54 (by kernel_rfl) rfl #[.agg #[.int .u64 a0_0, .int .u64 a0_1], .int .u64 a1] rfl (by (try simp only [List.map_toArray, List.map_cons, List.map_nil]); first | done | rfl | (simp only [List.length_drop, List.length_take]; rfl)) ?_; (with_reducible refine (uint128_Uint128_QuoRem64.calls k a0_0 a0_1 a1 t333 t334 t335 _ A3.out).mono ?_); rintro e w6 ⟨rfl, hb⟩; refine ⟨_, rfl, ?_⟩; have n0_ := Aside0.mk (blk_below (g := gb332) (o := .cells #[.int .u64 a0_0, .int .u64 a0_1] 65 (0, 0)) (by exact BK332.out) hb); have n1_ := Aside0.mk (below_step (by repeat (first | (with_reducible first | exact HB.out | apply below_alloc | apply pw_below_drewN | apply below_drew1 | refine below_set ?_ GE332.out) | exact HB.out)) hb); clear BK332; clear HB; have BK332 := n0_; have HB := n1_; clear n0_ n1_; (try clear hb); (try clear hb2); (try clear hk); (try clear hi)))
  go_ret
  exact ⟨by first | rfl | (simp [errW_none, errW_some] <;> rfl) | (simp [*, errW_none, errW_some] <;> rfl), by repeat (first | (with_reducible first | exact HB.out | apply below_alloc | apply pw_below_drewN | apply below_drew1 | refine below_set ?_ GE332.out) | exact HB.out)⟩
/-! ### impl_WideMod64: function 29 -/
set_option maxHeartbeats 4000000 in
set_option maxRecDepth 100000 in
theorem uint128_Uint128_Mod64.panics (a b : Int) (w : World) (hb : decide (b < 0) = false) (HZ : GlobE w) :
    Calls Tryd.prog 60 #[.agg #[.int .u64 a, .int .u64 b], .int .u64 0] w fun e w' => (∃ pv, e = .panicked [{ v := .iface 104 pv, recovered := false }]) ∧ Below w.heap.size w w' := by
  have HE := Lib.hid HZ
  have HBB := Lib.hid hb
  clear HZ hb
  go_enter Tryd.func60, Tryd.ntmps60
  go_wp2_with fail
  have B0 : Below w.heap.size w (w.alloc (.cells #[.int .u64 a, .int .u64 b] 65)) := (Below.refl w.heap.size w).alloc (Nat.le_refl _) _
  refine (QuoRem64_panics a b _ HBB.out (GlobE.below HE.out B0)).mono ?_
  rintro e W2 ⟨⟨pv, rfl⟩, hb2⟩
  exact ⟨rfl, ⟨_, rfl⟩, B0.trans (hb2.mono B0.size)⟩
set_option maxHeartbeats 4000000 in
set_option maxRecDepth 100000 in
theorem WideMod64_1 (a b c r1 : Int) (t : Bool) (p q : Nat) (w : World)
    (hR : Hid (∀ W : World, Below w.heap.size w W → Calls Tryd.prog 60 #[.agg #[.int .u64 a, .int .u64 b], .int .u64 c] W fun e W' => ((t = true ∧ e = .returned (.int .u64 r1)) ∨ (t = false ∧ ∃ pv, e = .panicked [{ v := .iface 104 pv, recovered := false }])) ∧ Below W.heap.size W W'))
    (hp : w.heap[p]? = some (.cells #[.int .u64 a, .int .u64 b] 24 (0, 0))) (hq : w.heap[q]? = some (.cells #[.int .u64 c] 22 (0, 0))) :
    Calls Tryd.prog 59 #[.pointer (some ⟨p, 0, none⟩), .pointer (some ⟨q, 0, none⟩)] w fun e w' => ((t = true ∧ e = .returned (.int .u64 r1)) ∨ (t = false ∧ ∃ pv, e = .panicked [{ v := .iface 104 pv, recovered := false }])) ∧ Below w.heap.size w w' := by
  go_enter Tryd.func59, Tryd.ntmps59
  go_wp2_with fail
  have k1 := hp
  have k2 := hq
  clear hp hq
  refine start_ (n := 5) (S := fun w' => w'.cell? ⟨p, 0, none⟩ = some (.int .u64 a) ∧ w'.cell? ⟨p, 1, none⟩ = some (.int .u64 b) ∧ w'.cell? ⟨q, 0, none⟩ = some (.int .u64 c)) (ds := []) #[false, false, false, false, false] (by kernel_rfl) rfl rfl ⟨(blk_cell k1 0).trans rfl, (blk_cell k1 1).trans rfl, (blk_cell k2 0).trans rfl⟩ (fun hHeld => ?_)
  have z1 := blk_drew k1
  have z2 := blk_drew k2
  have B0 : Below w.heap.size w w.drew := (Below.refl w.heap.size w).drew
  clear k1 k2
  generalize w.drew = W0 at z1 z2 B0 hHeld ⊢
  have BW := Below.refl W0.heap.size W0
  refine take_ (i := 0) (N := some 3) (v := ?_) (a' := ?_) #[true, false, false, false, false] rfl rfl (by kernel_rfl) (fun _ _ _ h => h) (Or.inl ⟨by rfl, ?_⟩) hHeld ?_ ?_
  rotate_left
  · rintro w' ⟨s0, s1, s2⟩
    go_simp
    with_reducible rfl
  rotate_left
  · simp only [Act.put, List.setIfInBounds_toArray, List.set_cons_zero, List.set_cons_succ, i64_w, i32_w]
    rfl
  refine take_ (i := 2) (N := some 5) (v := ?_) (a' := ?_) #[true, false, true, false, false] rfl rfl (by kernel_rfl) (fun _ _ _ h => h) (Or.inl ⟨by rfl, ?_⟩) hHeld ?_ ?_
  rotate_left
  · rintro w' ⟨s0, s1, s2⟩
    go_simp
    with_reducible rfl
  rotate_left
  · simp only [Act.put, List.setIfInBounds_toArray, List.set_cons_zero, List.set_cons_succ, i64_w, i32_w]
    rfl
  refine one_ (i := 1) (N := some 4) #[true, true, true, false, false] rfl rfl (by kernel_rfl) (by decide) (fun K hK => ?_)
  refine goes_ Tryd.func46 (by kernel_rfl) rfl #[(.agg #[.int .u64 a, .int .u64 b])] (by rfl) rfl rfl (by (try simp only [List.map_toArray, List.map_cons, List.map_nil]); first | done | rfl) ?_
  refine (impl_Wide_u.calls a b a b _ rfl).mono ?_
  rintro e W9 ⟨rfl, hb⟩
  refine ⟨_, rfl, ?_⟩
  replace BW := q_on BW BW.size hb
  clear hb
  refine hK.out _ _ ⟨(blk_cell (q_blk z1 BW) 0).trans rfl, (blk_cell (q_blk z1 BW) 1).trans rfl, (blk_cell (q_blk z2 BW) 0).trans rfl⟩ (fun hHeld => ?_)
  clear hK K
  refine norm_ (a' := ?_) ?_ ?_
  rotate_left
  · show Act.put _ (some 4) _ = _
    simp only [Act.put, List.setIfInBounds_toArray, List.set_cons_zero, List.set_cons_succ, i64_w, i32_w]
    rfl
  refine one_ (i := 3) (N := some 6) #[true, true, true, true, false] rfl rfl (by kernel_rfl) (by decide) (fun K hK => ?_)
  refine rgoes_ Tryd.func60 (by kernel_rfl) rfl #[.agg #[.int .u64 a, .int .u64 b], .int .u64 c] (by rfl) rfl rfl (by (try simp only [List.map_toArray, List.map_cons, List.map_nil]); first | done | rfl) ?_
  refine (hR.out _ (B0.trans (BW.mono B0.size))).mono ?_
  rintro e W9 ⟨⟨ht, rfl⟩ | ⟨ht, pv, rfl⟩, hb⟩
  rotate_left
  · exact Or.inr ⟨_, rfl, rfl, Or.inr ⟨ht, pv, rfl⟩, B0.trans ((q_on BW BW.size hb).mono B0.size)⟩
  refine Or.inl ⟨_, rfl, ?_⟩
  replace BW := q_on BW BW.size hb
  clear hb
  refine hK.out _ _ ⟨(blk_cell (q_blk z1 BW) 0).trans rfl, (blk_cell (q_blk z1 BW) 1).trans rfl, (blk_cell (q_blk z2 BW) 0).trans rfl⟩ (fun hHeld => ?_)
  clear hK K
  refine norm_ (a' := ?_) ?_ ?_
  rotate_left
  · show Act.put _ (some 6) _ = _
    simp only [Act.put, List.setIfInBounds_toArray, List.set_cons_zero, List.set_cons_succ, i64_w, i32_w]
    rfl
  refine pure_ (i := 4) (N := some 2) (v := ?_) (a' := ?_) #[true, true, true, true, true] rfl rfl (by kernel_rfl) (fun _ _ _ h => h) (Or.inl ⟨by rfl, ?_⟩) ?_ ?_
  rotate_left
  · intro w'
    go_simp
    with_reducible rfl
  rotate_left
  · simp only [Act.put, List.setIfInBounds_toArray, List.set_cons_zero, List.set_cons_succ, i64_w, i32_w]
    rfl
  refine done_ (by kernel_rfl) ?_
  go_wp2
  refine bodyPost_ret (v := .int .u64 r1) (by simp [results, Tryd.results59, go_sem]) rfl ⟨Or.inl ⟨ht, rfl⟩, B0.trans (BW.mono B0.size)⟩
def impl_WideMod64.f (k : Nat) (a0_0 a0_1 a1 : Int) : Option (Int × Bool) :=
  if a1 = 0 then (if 0 ≤ a0_1 then some (0, false) else none) else (uint128_Uint128_Mod64.f k a0_0 a0_1 a1).bind fun r => some (r, true)
theorem impl_WideMod64.mono : ∀ a0 a1 a2 k, LeO (impl_WideMod64.f k a0 a1 a2) (impl_WideMod64.f (k + 1) a0 a1 a2) := by
  intro a0 a1 a2 k
  unfold impl_WideMod64.f
  split
  · exact LeO.refl _
  · exact LeO.bind (uint128_Uint128_Mod64.mono a0 a1 a2 k) (fun _ => LeO.refl _)
set_option maxHeartbeats 4000000 in
set_option maxRecDepth 100000 in
theorem impl_WideMod64.calls (k : Nat) (a0_0 : Int) (a0_1 : Int) (a1 : Int) (r1 : Int) (t : Bool) (w : World) (h : impl_WideMod64.f k a0_0 a0_1 a1 = some (r1, t)) (HZ : GlobE w) :
    Calls Tryd.prog 29 #[.agg #[.int .u64 a0_0, .int .u64 a0_1], .int .u64 a1] w fun e w' => e = .returned (.tuple #[(.int .u64 r1), .bool t]) ∧ Below w.heap.size w w' := by
  have hmf : ∀ (fn : Fn) (first cap : Array Value) (w : World), (Instr.makeFunc fn first cap).run Tryd.prog w = .ok (.func fn first cap) w := fun _ _ _ _ => rfl
  have hR : ∀ W : World, Below w.heap.size w W → Calls Tryd.prog 60 #[.agg #[.int .u64 a0_0, .int .u64 a0_1], .int .u64 a1] W fun e W' => ((t = true ∧ e = .returned (.int .u64 r1)) ∨ (t = false ∧ ∃ pv, e = .panicked [{ v := .iface 104 pv, recovered := false }])) ∧ Below W.heap.size W W' := by
    intro W hW
    unfold impl_WideMod64.f at h
    split at h
    · rename_i hlt
      split at h
      case isFalse => cases h
      obtain ⟨rfl, rfl⟩ : (0 : Int) = r1 ∧ false = t := by simpa using h
      rw [hlt]
      refine (uint128_Uint128_Mod64.panics a0_0 a0_1 W (decide_eq_false (by omega)) (GlobE.below HZ hW)).mono ?_
      rintro e w' ⟨⟨pv, rfl⟩, hb⟩
      exact ⟨Or.inr ⟨rfl, pv, rfl⟩, hb⟩
    · obtain ⟨s1, h1, h2⟩ := Option.bind_eq_some_iff.mp h
      obtain ⟨rfl, rfl⟩ : s1 = r1 ∧ true = t := by simpa using h2
      refine (uint128_Uint128_Mod64.calls k _ _ _ _ W h1).mono ?_
      rintro e w' ⟨rfl, hb⟩
      exact ⟨Or.inl ⟨rfl, rfl⟩, hb⟩
  have hx : t = false → r1 = 0 := by
    intro ht
    unfold impl_WideMod64.f at h
    split at h
    · split at h
      case isFalse => cases h
      obtain ⟨rfl, rfl⟩ : (0 : Int) = r1 ∧ false = t := by simpa using h
      exact rfl
    · obtain ⟨s1, h1, h2⟩ := Option.bind_eq_some_iff.mp h
      obtain ⟨rfl, rfl⟩ : s1 = r1 ∧ true = t := by simpa using h2
      cases ht
  have BN : Below w.heap.size w ((w.alloc (.cells #[.int .u64 a0_0, .int .u64 a0_1] 24)).alloc (.cells #[.int .u64 a1] 22)) := ((Below.refl w.heap.size w).alloc (Nat.le_refl _) _).alloc (by simp) _
  have y0 : ((w.alloc (.cells #[.int .u64 a0_0, .int .u64 a0_1] 24)).alloc (.cells #[.int .u64 a1] 22)).heap[w.heap.size]? = some (.cells #[.int .u64 a0_0, .int .u64 a0_1] 24) := blk_alloc (MapKept.heap_alloc w _).1 _
  have y1 : ((w.alloc (.cells #[.int .u64 a0_0, .int .u64 a0_1] 24)).alloc (.cells #[.int .u64 a1] 22)).heap[w.heap.size + 1]? = some (.cells #[.int .u64 a1] 22) := by
    have e := (MapKept.heap_alloc (w.alloc (.cells #[.int .u64 a0_0, .int .u64 a0_1] 24)) (.cells #[.int .u64 a1] 22)).1
    rw [World.size_alloc] at e
    exact e
  have key : Calls Tryd.prog 58 #[.func (.func 59) #[] #[.pointer (some ⟨w.heap.size, 0, none⟩), .pointer (some ⟨w.heap.size + 1, 0, none⟩)]] ((w.alloc (.cells #[.int .u64 a0_0, .int .u64 a0_1] 24)).alloc (.cells #[.int .u64 a1] 22)) fun e w' => e = .returned (.tuple #[(.int .u64 r1), .bool t]) ∧ Below ((w.alloc (.cells #[.int .u64 a0_0, .int .u64 a0_1] 24)).alloc (.cells #[.int .u64 a1] 22)).heap.size ((w.alloc (.cells #[.int .u64 a0_0, .int .u64 a0_1] 24)).alloc (.cells #[.int .u64 a1] 22)) w' := by
    refine triedU 59 _ t r1 _ (fun _ _ => rfl) hx (Lib.hid fun W hW => ?_)
    exact WideMod64_1 a0_0 a0_1 a1 r1 t _ _ W (Lib.hid fun W' hW' => hR W' (BN.trans ((hW.trans (hW'.mono hW.size)).mono BN.size))) (q_blk y0 hW) (q_blk y1 hW)
  have HK := Lib.hid key
  have HB0 := Lib.hid BN
  clear key h HZ hR hx y0 y1 BN
  go_enter Tryd.func29, Tryd.ntmps29
  go_wp2_with fail
  refine HK.out.mono ?_
  rintro e w1 ⟨rfl, hb⟩
  have hs := hb.size
  simp only [World.size_alloc] at hs
  have HB := Lib.hid (HB0.out.trans (hb.mono HB0.out.size))
  clear hb HK
  go_wp2
  refine bodyPost_ret (v := .tuple #[(.int .u64 r1), .bool t]) (by simp [results, Tryd.results29, go_sem]) rfl ⟨rfl, HB.out⟩
end Go.Proofs.YtiifnofghicnaaaDoor.PAll
