/- FnWideReverse. Walked by hand (function literals, boxed locals). -/
import Derived.Test.YtiifnofghicnaaaRevLaw
namespace Go.Proofs.Ytiifnofghicnaaa.PAll
open Go.RowKit Go.Proofs.YtiifnofghicnaaaW.PrintWords Go.Proofs.YtiifnofghicnaaaW.PrintLast Go.Proofs.YtiifnofghicnaaaW.PrintMore
attribute [local go_sem high] eqA24
set_option linter.unusedVariables false
set_option linter.unusedSimpArgs false
theorem set2 {W : World} {g T : Nat} {x y : Value} (h : W.heap[g]? = some (.cells #[x, y] T (0, 0))) (u v : Value) : ((W.setCell ⟨g, 0, none⟩ u).setCell ⟨g, 1, none⟩ v).heap[g]? = some (.cells #[u, v] T (0, 0)) := blk_put (blk_set h 0 u) 1 v rfl
theorem far2 {W : World} {g k T : Nat} {cs : Array Value} (h : W.heap[k]? = some (.cells cs T (0, 0))) (hne : k ≠ g) (u v : Value) : ((W.setCell ⟨g, 0, none⟩ u).setCell ⟨g, 1, none⟩ v).heap[k]? = some (.cells cs T (0, 0)) := blk_far (blk_far h (p := ⟨g, 0, none⟩) hne u) (p := ⟨g, 1, none⟩) hne v
set_option maxHeartbeats 1000000 in
set_option maxRecDepth 100000 in
theorem Reverse_1 (i x q : Nat) (A : Option Addr) (c : Nat) (w : World) (hi : i < 128)
    (q0 : w.cell? ⟨q, 0, none⟩ = some (.slice A (Dig.dg x).length c)) (hc : (Dig.dg x).length ≤ c) (hr : Kd.C (Kd.int .i64) w A (Dig.dg x).length (Dig.dg x)) :
    Calls Try.prog 57 #[.int .i64 (i : Int), .pointer (some ⟨q, 0, none⟩)] w fun e w' => e = .returned (.bool (x.testBit (127 - i))) ∧ Below w.heap.size w w' := by
  have hB : Hid (spec_Big_Bit.f (Dig.dg x) (127 - (i : Int)) = some (x.testBit (127 - i))) := by
    have e : 127 - (i : Int) = ((127 - i : Nat) : Int) := by omega
    rw [e]
    exact bit_law x _ (by omega)
  generalize x.testBit (127 - i) = r at hB ⊢
  go_enter Try.func57, Try.ntmps57
  go_wp2_with fail
  refine (spec_Big_Bit.calls A c _ (127 - (i : Int)) r w hr hc hB).mono ?_
  rintro e w1 ⟨rfl, hb⟩
  clear hB q0 hr hc
  go_wp2
  go_ret
  exact ⟨rfl, hb.below⟩
set_option maxHeartbeats 1000000 in
set_option maxRecDepth 100000 in
theorem Reverse_2 (i x q : Nat) (A : Option Addr) (c : Nat) (w : World) (hi : i < 128)
    (q0 : w.cell? ⟨q, 0, none⟩ = some (.slice A (Dig.dg x).length c)) (hc : (Dig.dg x).length ≤ c) (hr : Kd.C (Kd.int .i64) w A (Dig.dg x).length (Dig.dg x)) :
    Calls Try.prog 58 #[.int .i64 (i : Int), .pointer (some ⟨q, 0, none⟩)] w fun e w' => e = .returned (.bool (x.testBit (8 * (15 - i / 8) + i % 8))) ∧ Below w.heap.size w w' := by
  have hB : Hid (spec_Big_Bit.f (Dig.dg x) (8 * (15 - (i : Int) / 8) + (i : Int) % 8) = some (x.testBit (8 * (15 - i / 8) + i % 8))) := by
    have e : 8 * (15 - (i : Int) / 8) + (i : Int) % 8 = ((8 * (15 - i / 8) + i % 8 : Nat) : Int) := by omega
    rw [e]
    exact bit_law x _ (by omega)
  generalize x.testBit (8 * (15 - i / 8) + i % 8) = r at hB ⊢
  go_enter Try.func58, Try.ntmps58
  go_wp2_with fail
  refine (spec_Big_Bit.calls A c _ (8 * (15 - (i : Int) / 8) + (i : Int) % 8) r w hr hc hB).mono ?_
  rintro e w1 ⟨rfl, hb⟩
  clear hB q0 hr hc
  go_wp2
  go_ret
  exact ⟨rfl, hb.below⟩
set_option maxHeartbeats 16000000 in
set_option maxRecDepth 100000 in
theorem rev_call (a b : Int) (ha : U64 a) (hb : U64 b) (r1 r2 r3 r4 : Int) (w : World) (h1 : impl_WideReverse.f a b = some (r1, r2)) (h2 : impl_WideReverseBytes.f a b = some (r3, r4)) (h3 : impl_WideReverse.f r1 r2 = some (a, b)) (h4 : impl_WideReverseBytes.f r3 r4 = some (a, b))
   (hs1 : laws_wideIs.f 100 r1 r2 (Dig.dg (Dig.ofb (fun i => (N128 a b).testBit (127 - i)) 128)) = some true) (hs2 : laws_wideIs.f 100 r3 r4 (Dig.dg (Dig.ofb (fun i => (N128 a b).testBit (8 * (15 - i / 8) + i % 8)) 128)) = some true) :
    Calls Try.prog 13 #[.agg #[.int .u64 a, .int .u64 b]] w fun e w' => e = .returned (.bool true) ∧ Below w.heap.size w w' := by
  have H1 := Lib.hid h1
  have H2 := Lib.hid h2
  have H3 := Lib.hid h3
  have H4 := Lib.hid h4
  have HS1 := Lib.hid hs1
  have HS2 := Lib.hid hs2
  have HA := Lib.hid (whole_law ha hb)
  clear h1 h2 h3 h4 hs1 hs2 ha hb
  have hmf : ∀ (fn : Fn) (first cap : Array Value) (w : World), (Instr.makeFunc fn first cap).run Try.prog w = .ok (.func fn first cap) w := fun _ _ _ _ => rfl
  go_enter Try.func13, Try.ntmps13
  go_wp2_with fail
  refine (laws_wideWhole.calls a b _ _ HA).mono ?_
  rintro e w1 ⟨v, rfl, hv, hb1⟩
  obtain ⟨A, c, rfl, hc, hr⟩ := V_at hv
  obtain ⟨x1, x3, x4⟩ := box1 w (.cells #[.int .u64 a, .int .u64 b] 24)
  have k1 := blk_on x1 hb1
  have B1 : Below w.heap.size w w1 := on_ x3 (by rw [x4]; omega) hb1
  have E := Lib.hid (And.intro k1 (And.intro B1 hr))
  clear k1 B1 hr hb1 x1 x3 x4 hv
  go_wp2_with fail
  obtain ⟨k1, B1, hr⟩ := id E
  obtain ⟨y1, y2, y3⟩ := box1 w1 (.cells #[.slice A (Dig.dg (N128 a b)).length c] 27)
  replace k1 := blk_alloc k1 (.cells #[.slice A (Dig.dg (N128 a b)).length c] 27)
  have B2 : Below w.heap.size w (w1.alloc (.cells #[.slice A (Dig.dg (N128 a b)).length c] 27)) := B1.trans (y2.mono B1.size)
  replace hr : ∀ W, Below (w1.alloc (.cells #[.slice A (Dig.dg (N128 a b)).length c] 27)).heap.size (w1.alloc (.cells #[.slice A (Dig.dg (N128 a b)).length c] 27)) W → Kd.C (Kd.int .i64) W A (Dig.dg (N128 a b)).length (Dig.dg (N128 a b)) := fun W hW => hr W (on_ y2 (by rw [y3]; omega) hW)
  clear B1 E y2 y3
  generalize hp : w.heap.size = p at k1 ⊢
  generalize hxb : w1.heap.size = xb at y1 ⊢
  generalize w1.alloc (.cells #[.slice A (Dig.dg (N128 a b)).length c] 27) = W00 at k1 y1 B2 hr ⊢
  refine start_ (n := 8) (S := fun w' => w'.cell? ⟨p, 0, none⟩ = some (.int .u64 a) ∧ w'.cell? ⟨p, 1, none⟩ = some (.int .u64 b)) (ds := []) #[false, false, false, false, false, false, false, false] (by kernel_rfl) rfl rfl ⟨(blk_cell k1 0).trans rfl, (blk_cell k1 1).trans rfl⟩ (fun hHeld => ?_)
  have z1 := blk_drew k1
  have zx := blk_drew y1
  have B0 : Below w.heap.size w W00.drew := B2.drew
  replace hr : ∀ W, Below W00.drew.heap.size W00.drew W → Kd.C (Kd.int .i64) W A (Dig.dg (N128 a b)).length (Dig.dg (N128 a b)) := fun W hW => hr W (((Below.refl _ _).drew).trans hW)
  clear k1 y1 B2
  generalize W00.drew = W0 at z1 zx B0 hr hHeld ⊢
  have BW := Below.refl W0.heap.size W0
  refine take_ (i := 0) (N := some 10) (v := ?_) (a' := ?_) #[true, false, false, false, false, false, false, false] rfl rfl (by kernel_rfl) (fun _ _ _ h => h) (Or.inl ⟨by rfl, ?_⟩) hHeld ?_ ?_
  rotate_left
  · rintro w' ⟨s0, s1⟩
    go_simp
    with_reducible rfl
  rotate_left
  · simp only [Act.put, List.setIfInBounds_toArray, List.set_cons_zero, List.set_cons_succ, i64_w, i32_w]
    rfl
  refine take_ (i := 2) (N := some 12) (v := ?_) (a' := ?_) #[true, false, true, false, false, false, false, false] rfl rfl (by kernel_rfl) (fun _ _ _ h => h) (Or.inl ⟨by rfl, ?_⟩) hHeld ?_ ?_
  rotate_left
  · rintro w' ⟨s0, s1⟩
    go_simp
    with_reducible rfl
  rotate_left
  · simp only [Act.put, List.setIfInBounds_toArray, List.set_cons_zero, List.set_cons_succ, i64_w, i32_w]
    rfl
  refine join_ (σ := Nat × Nat) 2 #[true, true, true, true, true, true, false, false] (fun s => [(11, (.agg #[.int .u64 r1, .int .u64 r2])), (13, (.agg #[.int .u64 r3, .int .u64 r4])), (4, .pointer (some ⟨s.1, 0, none⟩)), (5, .pointer (some ⟨s.2, 0, none⟩))]) (fun s w' => Below W0.heap.size W0 w' ∧ W0.heap.size ≤ s.1 ∧ w'.heap[s.1]? = some (.cells #[.int .u64 0, .int .u64 0] 24 (0, 0)) ∧ W0.heap.size ≤ s.2 ∧ w'.heap[s.2]? = some (.cells #[.int .u64 0, .int .u64 0] 24 (0, 0)) ∧ s.1 ≠ s.2) ?_ ?_
  rotate_left
  · intro hJ1_3_4_5
    refine join_ (σ := Nat × Nat) 3 #[true, true, true, true, true, false, false, false] (fun s => [(11, (.agg #[.int .u64 r1, .int .u64 r2])), (13, (.agg #[.int .u64 r3, .int .u64 r4])), (4, .pointer (some ⟨s.1, 0, none⟩))]) (fun s w' => Below W0.heap.size W0 w' ∧ W0.heap.size ≤ s.1 ∧ w'.heap[s.1]? = some (.cells #[.int .u64 0, .int .u64 0] 24 (0, 0))) ?_ ?_
    rotate_left
    · intro hJ1_3_4
      refine join_ (σ := Nat × Nat) 3 #[true, true, true, true, false, true, false, false] (fun s => [(11, (.agg #[.int .u64 r1, .int .u64 r2])), (13, (.agg #[.int .u64 r3, .int .u64 r4])), (5, .pointer (some ⟨s.2, 0, none⟩))]) (fun s w' => Below W0.heap.size W0 w' ∧ W0.heap.size ≤ s.2 ∧ w'.heap[s.2]? = some (.cells #[.int .u64 0, .int .u64 0] 24 (0, 0))) ?_ ?_
      rotate_left
      · intro hJ1_3_5
        refine join_ (σ := Nat × Nat) 3 #[true, true, true, false, true, true, false, false] (fun s => [(11, (.agg #[.int .u64 r1, .int .u64 r2])), (4, .pointer (some ⟨s.1, 0, none⟩)), (5, .pointer (some ⟨s.2, 0, none⟩))]) (fun s w' => Below W0.heap.size W0 w' ∧ W0.heap.size ≤ s.1 ∧ w'.heap[s.1]? = some (.cells #[.int .u64 0, .int .u64 0] 24 (0, 0)) ∧ W0.heap.size ≤ s.2 ∧ w'.heap[s.2]? = some (.cells #[.int .u64 0, .int .u64 0] 24 (0, 0)) ∧ s.1 ≠ s.2) ?_ ?_
        rotate_left
        · intro hJ1_4_5
          refine join_ (σ := Nat × Nat) 4 #[true, true, true, true, false, false, false, false] (fun s => [(11, (.agg #[.int .u64 r1, .int .u64 r2])), (13, (.agg #[.int .u64 r3, .int .u64 r4]))]) (fun s w' => Below W0.heap.size W0 w') ?_ ?_
          rotate_left
          · intro hJ1_3
            refine join_ (σ := Nat × Nat) 4 #[true, true, true, false, true, false, false, false] (fun s => [(11, (.agg #[.int .u64 r1, .int .u64 r2])), (4, .pointer (some ⟨s.1, 0, none⟩))]) (fun s w' => Below W0.heap.size W0 w' ∧ W0.heap.size ≤ s.1 ∧ w'.heap[s.1]? = some (.cells #[.int .u64 0, .int .u64 0] 24 (0, 0))) ?_ ?_
            rotate_left
            · intro hJ1_4
              refine join_ (σ := Nat × Nat) 4 #[true, true, true, false, false, true, false, false] (fun s => [(11, (.agg #[.int .u64 r1, .int .u64 r2])), (5, .pointer (some ⟨s.2, 0, none⟩))]) (fun s w' => Below W0.heap.size W0 w' ∧ W0.heap.size ≤ s.2 ∧ w'.heap[s.2]? = some (.cells #[.int .u64 0, .int .u64 0] 24 (0, 0))) ?_ ?_
              rotate_left
              · intro hJ1_5
                refine join_ (σ := Nat × Nat) 4 #[true, false, true, false, true, true, false, false] (fun s => [(4, .pointer (some ⟨s.1, 0, none⟩)), (5, .pointer (some ⟨s.2, 0, none⟩))]) (fun s w' => Below W0.heap.size W0 w' ∧ W0.heap.size ≤ s.1 ∧ w'.heap[s.1]? = some (.cells #[.int .u64 0, .int .u64 0] 24 (0, 0)) ∧ W0.heap.size ≤ s.2 ∧ w'.heap[s.2]? = some (.cells #[.int .u64 0, .int .u64 0] 24 (0, 0)) ∧ s.1 ≠ s.2) ?_ ?_
                rotate_left
                · intro hJ4_5
                  refine join_ (σ := Nat × Nat) 5 #[true, true, true, false, false, false, false, false] (fun s => [(11, (.agg #[.int .u64 r1, .int .u64 r2]))]) (fun s w' => Below W0.heap.size W0 w') ?_ ?_
                  rotate_left
                  · intro hJ1
                    refine join_ (σ := Nat × Nat) 5 #[true, false, true, false, true, false, false, false] (fun s => [(4, .pointer (some ⟨s.1, 0, none⟩))]) (fun s w' => Below W0.heap.size W0 w' ∧ W0.heap.size ≤ s.1 ∧ w'.heap[s.1]? = some (.cells #[.int .u64 0, .int .u64 0] 24 (0, 0))) ?_ ?_
                    rotate_left
                    · intro hJ4
                      refine join_ (σ := Nat × Nat) 5 #[true, false, true, false, false, true, false, false] (fun s => [(5, .pointer (some ⟨s.2, 0, none⟩))]) (fun s w' => Below W0.heap.size W0 w' ∧ W0.heap.size ≤ s.2 ∧ w'.heap[s.2]? = some (.cells #[.int .u64 0, .int .u64 0] 24 (0, 0))) ?_ ?_
                      rotate_left
                      · intro hJ5
                        refine three_ (i := 1) (j := 4) (k := 5) (Ni := some 11) (Nj := some 4) (Nk := some 5) #[true, true, true, false, false, false, false, false] #[true, false, true, false, true, false, false, false] #[true, false, true, false, false, true, false, false] rfl rfl rfl rfl rfl rfl (by kernel_rfl) (by decide) (by decide) (by decide) (fun K hK => ?_) (fun K hK => ?_) (fun K hK => ?_)
                        · skip
                          refine goes_ Try.func55 (by kernel_rfl) rfl #[.agg #[.int .u64 a, .int .u64 b]] (by rfl) rfl rfl (by simp only [List.map_toArray, List.map_cons, List.map_nil]; rfl) ?_
                          refine (impl_WideReverse.calls a b r1 r2 _ H1).mono ?_
                          rintro e W2 ⟨rfl, hb⟩
                          refine ⟨_, rfl, ?_⟩
                          replace BW := on_ BW BW.size hb
                          clear hb
                          refine hK.out _ _ ⟨(blk_cell (blk_on z1 BW) 0).trans rfl, (blk_cell (blk_on z1 BW) 1).trans rfl⟩ (fun hHeld => ?_)
                          clear hK K
                          refine norm_ (a' := ?_) ?_ ?_
                          rotate_left
                          · show Act.put _ (some 11) _ = _
                            simp only [Act.put, List.setIfInBounds_toArray, List.set_cons_zero, List.set_cons_succ, i64_w, i32_w]
                            rfl
                          exact norm_ (by first | (simp only [putAll, Act.put, List.setIfInBounds_toArray, List.set_cons_zero, List.set_cons_succ]; done) | (simp only [putAll, Act.put, List.setIfInBounds_toArray, List.set_cons_zero, List.set_cons_succ]; rfl)) (hJ1 ⟨0, 0⟩ _ (BW))
                        · skip
                          refine value_ (w1 := ?_) (v := ?_) (by rfl) rfl ?_ ?_
                          rotate_left 2
                          · go_simp
                            constructor
                            · rfl
                            · rfl
                          refine hK.out _ _ ⟨(blk_cell (blk_alloc (blk_on z1 BW) _) 0).trans rfl, (blk_cell (blk_alloc (blk_on z1 BW) _) 1).trans rfl⟩ (fun hHeld => ?_)
                          clear hK K
                          refine norm_ (a' := ?_) ?_ ?_
                          rotate_left
                          · show Act.put _ (some 4) _ = _
                            simp only [Act.put, List.setIfInBounds_toArray, List.set_cons_zero, List.set_cons_succ, i64_w, i32_w]
                            rfl
                          exact norm_ (by first | (simp only [putAll, Act.put, List.setIfInBounds_toArray, List.set_cons_zero, List.set_cons_succ]; done) | (simp only [putAll, Act.put, List.setIfInBounds_toArray, List.set_cons_zero, List.set_cons_succ]; rfl)) (hJ4 ⟨_, 0⟩ _ ⟨(BW.trans (((Below.refl _ _).alloc (Nat.le_refl _) _).mono BW.size)), BW.size, (MapKept.heap_alloc _ _).1⟩)
                        · skip
                          refine value_ (w1 := ?_) (v := ?_) (by rfl) rfl ?_ ?_
                          rotate_left 2
                          · go_simp
                            constructor
                            · rfl
                            · rfl
                          refine hK.out _ _ ⟨(blk_cell (blk_alloc (blk_on z1 BW) _) 0).trans rfl, (blk_cell (blk_alloc (blk_on z1 BW) _) 1).trans rfl⟩ (fun hHeld => ?_)
                          clear hK K
                          refine norm_ (a' := ?_) ?_ ?_
                          rotate_left
                          · show Act.put _ (some 5) _ = _
                            simp only [Act.put, List.setIfInBounds_toArray, List.set_cons_zero, List.set_cons_succ, i64_w, i32_w]
                            rfl
                          exact norm_ (by first | (simp only [putAll, Act.put, List.setIfInBounds_toArray, List.set_cons_zero, List.set_cons_succ]; done) | (simp only [putAll, Act.put, List.setIfInBounds_toArray, List.set_cons_zero, List.set_cons_succ]; rfl)) (hJ5 ⟨0, _⟩ _ ⟨(BW.trans (((Below.refl _ _).alloc (Nat.le_refl _) _).mono BW.size)), BW.size, (MapKept.heap_alloc _ _).1⟩)
                      · skip
                        rintro ⟨g4, g5⟩ W ⟨BW, l5, h5⟩
                        replace BW : Below W0.heap.size W0 W := BW
                        replace h5 : W.heap[g5]? = some (.cells #[.int .u64 0, .int .u64 0] 24 (0, 0)) := h5
                        replace l5 : W0.heap.size ≤ g5 := l5
                        have k1 := blk_on z1 BW
                        have hHeld : W.cell? ⟨p, 0, none⟩ = some (.int .u64 a) ∧ W.cell? ⟨p, 1, none⟩ = some (.int .u64 b) := ⟨(blk_cell k1 0).trans rfl, (blk_cell k1 1).trans rfl⟩
                        clear k1
                        refine norm_ (a' := ?_) ?_ ?_
                        rotate_left
                        · simp only [putAll, Act.put, List.setIfInBounds_toArray, List.set_cons_zero, List.set_cons_succ]
                          rfl
                        refine two_ (i := 1) (j := 4) (Ni := some 11) (Nj := some 4) #[true, true, true, false, false, true, false, false] #[true, false, true, false, true, true, false, false] rfl rfl rfl rfl (by kernel_rfl) (by decide) (by decide) (fun K hK => ?_) (fun K hK => ?_)
                        · skip
                          refine goes_ Try.func55 (by kernel_rfl) rfl #[.agg #[.int .u64 a, .int .u64 b]] (by rfl) rfl rfl (by simp only [List.map_toArray, List.map_cons, List.map_nil]; rfl) ?_
                          refine (impl_WideReverse.calls a b r1 r2 _ H1).mono ?_
                          rintro e W2 ⟨rfl, hb⟩
                          refine ⟨_, rfl, ?_⟩
                          replace BW := on_ BW BW.size hb
                          replace h5 := blk_on h5 hb
                          clear hb
                          refine hK.out _ _ ⟨(blk_cell (blk_on z1 BW) 0).trans rfl, (blk_cell (blk_on z1 BW) 1).trans rfl⟩ (fun hHeld => ?_)
                          clear hK K
                          refine norm_ (a' := ?_) ?_ ?_
                          rotate_left
                          · show Act.put _ (some 11) _ = _
                            simp only [Act.put, List.setIfInBounds_toArray, List.set_cons_zero, List.set_cons_succ, i64_w, i32_w]
                            rfl
                          exact norm_ (by first | (simp only [putAll, Act.put, List.setIfInBounds_toArray, List.set_cons_zero, List.set_cons_succ]; done) | (simp only [putAll, Act.put, List.setIfInBounds_toArray, List.set_cons_zero, List.set_cons_succ]; rfl)) (hJ1_5 ⟨0, g5⟩ _ ⟨BW, l5, h5⟩)
                        · skip
                          refine value_ (w1 := ?_) (v := ?_) (by rfl) rfl ?_ ?_
                          rotate_left 2
                          · go_simp
                            constructor
                            · rfl
                            · rfl
                          refine hK.out _ _ ⟨(blk_cell (blk_alloc (blk_on z1 BW) _) 0).trans rfl, (blk_cell (blk_alloc (blk_on z1 BW) _) 1).trans rfl⟩ (fun hHeld => ?_)
                          clear hK K
                          refine norm_ (a' := ?_) ?_ ?_
                          rotate_left
                          · show Act.put _ (some 4) _ = _
                            simp only [Act.put, List.setIfInBounds_toArray, List.set_cons_zero, List.set_cons_succ, i64_w, i32_w]
                            rfl
                          exact norm_ (by first | (simp only [putAll, Act.put, List.setIfInBounds_toArray, List.set_cons_zero, List.set_cons_succ]; done) | (simp only [putAll, Act.put, List.setIfInBounds_toArray, List.set_cons_zero, List.set_cons_succ]; rfl)) (hJ4_5 ⟨_, g5⟩ _ ⟨(BW.trans (((Below.refl _ _).alloc (Nat.le_refl _) _).mono BW.size)), BW.size, (MapKept.heap_alloc _ _).1, l5, blk_alloc h5 _, (Nat.ne_of_gt (blk_lt h5))⟩)
                    · skip
                      rintro ⟨g4, g5⟩ W ⟨BW, l4, h4⟩
                      replace BW : Below W0.heap.size W0 W := BW
                      replace h4 : W.heap[g4]? = some (.cells #[.int .u64 0, .int .u64 0] 24 (0, 0)) := h4
                      replace l4 : W0.heap.size ≤ g4 := l4
                      have k1 := blk_on z1 BW
                      have hHeld : W.cell? ⟨p, 0, none⟩ = some (.int .u64 a) ∧ W.cell? ⟨p, 1, none⟩ = some (.int .u64 b) := ⟨(blk_cell k1 0).trans rfl, (blk_cell k1 1).trans rfl⟩
                      clear k1
                      refine norm_ (a' := ?_) ?_ ?_
                      rotate_left
                      · simp only [putAll, Act.put, List.setIfInBounds_toArray, List.set_cons_zero, List.set_cons_succ]
                        rfl
                      refine two_ (i := 1) (j := 5) (Ni := some 11) (Nj := some 5) #[true, true, true, false, true, false, false, false] #[true, false, true, false, true, true, false, false] rfl rfl rfl rfl (by kernel_rfl) (by decide) (by decide) (fun K hK => ?_) (fun K hK => ?_)
                      · skip
                        refine goes_ Try.func55 (by kernel_rfl) rfl #[.agg #[.int .u64 a, .int .u64 b]] (by rfl) rfl rfl (by simp only [List.map_toArray, List.map_cons, List.map_nil]; rfl) ?_
                        refine (impl_WideReverse.calls a b r1 r2 _ H1).mono ?_
                        rintro e W2 ⟨rfl, hb⟩
                        refine ⟨_, rfl, ?_⟩
                        replace BW := on_ BW BW.size hb
                        replace h4 := blk_on h4 hb
                        clear hb
                        refine hK.out _ _ ⟨(blk_cell (blk_on z1 BW) 0).trans rfl, (blk_cell (blk_on z1 BW) 1).trans rfl⟩ (fun hHeld => ?_)
                        clear hK K
                        refine norm_ (a' := ?_) ?_ ?_
                        rotate_left
                        · show Act.put _ (some 11) _ = _
                          simp only [Act.put, List.setIfInBounds_toArray, List.set_cons_zero, List.set_cons_succ, i64_w, i32_w]
                          rfl
                        exact norm_ (by first | (simp only [putAll, Act.put, List.setIfInBounds_toArray, List.set_cons_zero, List.set_cons_succ]; done) | (simp only [putAll, Act.put, List.setIfInBounds_toArray, List.set_cons_zero, List.set_cons_succ]; rfl)) (hJ1_4 ⟨g4, 0⟩ _ ⟨BW, l4, h4⟩)
                      · skip
                        refine value_ (w1 := ?_) (v := ?_) (by rfl) rfl ?_ ?_
                        rotate_left 2
                        · go_simp
                          constructor
                          · rfl
                          · rfl
                        refine hK.out _ _ ⟨(blk_cell (blk_alloc (blk_on z1 BW) _) 0).trans rfl, (blk_cell (blk_alloc (blk_on z1 BW) _) 1).trans rfl⟩ (fun hHeld => ?_)
                        clear hK K
                        refine norm_ (a' := ?_) ?_ ?_
                        rotate_left
                        · show Act.put _ (some 5) _ = _
                          simp only [Act.put, List.setIfInBounds_toArray, List.set_cons_zero, List.set_cons_succ, i64_w, i32_w]
                          rfl
                        exact norm_ (by first | (simp only [putAll, Act.put, List.setIfInBounds_toArray, List.set_cons_zero, List.set_cons_succ]; done) | (simp only [putAll, Act.put, List.setIfInBounds_toArray, List.set_cons_zero, List.set_cons_succ]; rfl)) (hJ4_5 ⟨g4, _⟩ _ ⟨(BW.trans (((Below.refl _ _).alloc (Nat.le_refl _) _).mono BW.size)), l4, blk_alloc h4 _, BW.size, (MapKept.heap_alloc _ _).1, (Nat.ne_of_lt (blk_lt h4))⟩)
                  · skip
                    rintro ⟨g4, g5⟩ W BW
                    replace BW : Below W0.heap.size W0 W := BW
                    have k1 := blk_on z1 BW
                    have hHeld : W.cell? ⟨p, 0, none⟩ = some (.int .u64 a) ∧ W.cell? ⟨p, 1, none⟩ = some (.int .u64 b) := ⟨(blk_cell k1 0).trans rfl, (blk_cell k1 1).trans rfl⟩
                    clear k1
                    refine norm_ (a' := ?_) ?_ ?_
                    rotate_left
                    · simp only [putAll, Act.put, List.setIfInBounds_toArray, List.set_cons_zero, List.set_cons_succ]
                      rfl
                    refine three_ (i := 3) (j := 4) (k := 5) (Ni := some 13) (Nj := some 4) (Nk := some 5) #[true, true, true, true, false, false, false, false] #[true, true, true, false, true, false, false, false] #[true, true, true, false, false, true, false, false] rfl rfl rfl rfl rfl rfl (by kernel_rfl) (by decide) (by decide) (by decide) (fun K hK => ?_) (fun K hK => ?_) (fun K hK => ?_)
                    · skip
                      refine goes_ Try.func56 (by kernel_rfl) rfl #[.agg #[.int .u64 a, .int .u64 b]] (by rfl) rfl rfl (by simp only [List.map_toArray, List.map_cons, List.map_nil]; rfl) ?_
                      refine (impl_WideReverseBytes.calls a b r3 r4 _ H2).mono ?_
                      rintro e W2 ⟨rfl, hb⟩
                      refine ⟨_, rfl, ?_⟩
                      replace BW := on_ BW BW.size hb
                      clear hb
                      refine hK.out _ _ ⟨(blk_cell (blk_on z1 BW) 0).trans rfl, (blk_cell (blk_on z1 BW) 1).trans rfl⟩ (fun hHeld => ?_)
                      clear hK K
                      refine norm_ (a' := ?_) ?_ ?_
                      rotate_left
                      · show Act.put _ (some 13) _ = _
                        simp only [Act.put, List.setIfInBounds_toArray, List.set_cons_zero, List.set_cons_succ, i64_w, i32_w]
                        rfl
                      exact norm_ (by first | (simp only [putAll, Act.put, List.setIfInBounds_toArray, List.set_cons_zero, List.set_cons_succ]; done) | (simp only [putAll, Act.put, List.setIfInBounds_toArray, List.set_cons_zero, List.set_cons_succ]; rfl)) (hJ1_3 ⟨0, 0⟩ _ (BW))
                    · skip
                      refine value_ (w1 := ?_) (v := ?_) (by rfl) rfl ?_ ?_
                      rotate_left 2
                      · go_simp
                        constructor
                        · rfl
                        · rfl
                      refine hK.out _ _ ⟨(blk_cell (blk_alloc (blk_on z1 BW) _) 0).trans rfl, (blk_cell (blk_alloc (blk_on z1 BW) _) 1).trans rfl⟩ (fun hHeld => ?_)
                      clear hK K
                      refine norm_ (a' := ?_) ?_ ?_
                      rotate_left
                      · show Act.put _ (some 4) _ = _
                        simp only [Act.put, List.setIfInBounds_toArray, List.set_cons_zero, List.set_cons_succ, i64_w, i32_w]
                        rfl
                      exact norm_ (by first | (simp only [putAll, Act.put, List.setIfInBounds_toArray, List.set_cons_zero, List.set_cons_succ]; done) | (simp only [putAll, Act.put, List.setIfInBounds_toArray, List.set_cons_zero, List.set_cons_succ]; rfl)) (hJ1_4 ⟨_, 0⟩ _ ⟨(BW.trans (((Below.refl _ _).alloc (Nat.le_refl _) _).mono BW.size)), BW.size, (MapKept.heap_alloc _ _).1⟩)
                    · skip
                      refine value_ (w1 := ?_) (v := ?_) (by rfl) rfl ?_ ?_
                      rotate_left 2
                      · go_simp
                        constructor
                        · rfl
                        · rfl
                      refine hK.out _ _ ⟨(blk_cell (blk_alloc (blk_on z1 BW) _) 0).trans rfl, (blk_cell (blk_alloc (blk_on z1 BW) _) 1).trans rfl⟩ (fun hHeld => ?_)
                      clear hK K
                      refine norm_ (a' := ?_) ?_ ?_
                      rotate_left
                      · show Act.put _ (some 5) _ = _
                        simp only [Act.put, List.setIfInBounds_toArray, List.set_cons_zero, List.set_cons_succ, i64_w, i32_w]
                        rfl
                      exact norm_ (by first | (simp only [putAll, Act.put, List.setIfInBounds_toArray, List.set_cons_zero, List.set_cons_succ]; done) | (simp only [putAll, Act.put, List.setIfInBounds_toArray, List.set_cons_zero, List.set_cons_succ]; rfl)) (hJ1_5 ⟨0, _⟩ _ ⟨(BW.trans (((Below.refl _ _).alloc (Nat.le_refl _) _).mono BW.size)), BW.size, (MapKept.heap_alloc _ _).1⟩)
                · skip
                  rintro ⟨g4, g5⟩ W ⟨BW, l4, h4, l5, h5, n45⟩
                  replace BW : Below W0.heap.size W0 W := BW
                  replace h4 : W.heap[g4]? = some (.cells #[.int .u64 0, .int .u64 0] 24 (0, 0)) := h4
                  replace l4 : W0.heap.size ≤ g4 := l4
                  replace h5 : W.heap[g5]? = some (.cells #[.int .u64 0, .int .u64 0] 24 (0, 0)) := h5
                  replace l5 : W0.heap.size ≤ g5 := l5
                  have k1 := blk_on z1 BW
                  have hHeld : W.cell? ⟨p, 0, none⟩ = some (.int .u64 a) ∧ W.cell? ⟨p, 1, none⟩ = some (.int .u64 b) := ⟨(blk_cell k1 0).trans rfl, (blk_cell k1 1).trans rfl⟩
                  clear k1
                  refine norm_ (a' := ?_) ?_ ?_
                  rotate_left
                  · simp only [putAll, Act.put, List.setIfInBounds_toArray, List.set_cons_zero, List.set_cons_succ]
                    rfl
                  refine one_ (i := 1) (N := some 11) #[true, true, true, false, true, true, false, false] rfl rfl (by kernel_rfl) (by decide) (fun K hK => ?_)
                  refine goes_ Try.func55 (by kernel_rfl) rfl #[.agg #[.int .u64 a, .int .u64 b]] (by rfl) rfl rfl (by simp only [List.map_toArray, List.map_cons, List.map_nil]; rfl) ?_
                  refine (impl_WideReverse.calls a b r1 r2 _ H1).mono ?_
                  rintro e W2 ⟨rfl, hb⟩
                  refine ⟨_, rfl, ?_⟩
                  replace BW := on_ BW BW.size hb
                  replace h4 := blk_on h4 hb
                  replace h5 := blk_on h5 hb
                  clear hb
                  refine hK.out _ _ ⟨(blk_cell (blk_on z1 BW) 0).trans rfl, (blk_cell (blk_on z1 BW) 1).trans rfl⟩ (fun hHeld => ?_)
                  clear hK K
                  refine norm_ (a' := ?_) ?_ ?_
                  rotate_left
                  · show Act.put _ (some 11) _ = _
                    simp only [Act.put, List.setIfInBounds_toArray, List.set_cons_zero, List.set_cons_succ, i64_w, i32_w]
                    rfl
                  exact norm_ (by first | (simp only [putAll, Act.put, List.setIfInBounds_toArray, List.set_cons_zero, List.set_cons_succ]; done) | (simp only [putAll, Act.put, List.setIfInBounds_toArray, List.set_cons_zero, List.set_cons_succ]; rfl)) (hJ1_4_5 ⟨g4, g5⟩ _ ⟨BW, l4, h4, l5, h5, n45⟩)
              · skip
                rintro ⟨g4, g5⟩ W ⟨BW, l5, h5⟩
                replace BW : Below W0.heap.size W0 W := BW
                replace h5 : W.heap[g5]? = some (.cells #[.int .u64 0, .int .u64 0] 24 (0, 0)) := h5
                replace l5 : W0.heap.size ≤ g5 := l5
                have k1 := blk_on z1 BW
                have hHeld : W.cell? ⟨p, 0, none⟩ = some (.int .u64 a) ∧ W.cell? ⟨p, 1, none⟩ = some (.int .u64 b) := ⟨(blk_cell k1 0).trans rfl, (blk_cell k1 1).trans rfl⟩
                clear k1
                refine norm_ (a' := ?_) ?_ ?_
                rotate_left
                · simp only [putAll, Act.put, List.setIfInBounds_toArray, List.set_cons_zero, List.set_cons_succ]
                  rfl
                refine two_ (i := 3) (j := 4) (Ni := some 13) (Nj := some 4) #[true, true, true, true, false, true, false, false] #[true, true, true, false, true, true, false, false] rfl rfl rfl rfl (by kernel_rfl) (by decide) (by decide) (fun K hK => ?_) (fun K hK => ?_)
                · skip
                  refine goes_ Try.func56 (by kernel_rfl) rfl #[.agg #[.int .u64 a, .int .u64 b]] (by rfl) rfl rfl (by simp only [List.map_toArray, List.map_cons, List.map_nil]; rfl) ?_
                  refine (impl_WideReverseBytes.calls a b r3 r4 _ H2).mono ?_
                  rintro e W2 ⟨rfl, hb⟩
                  refine ⟨_, rfl, ?_⟩
                  replace BW := on_ BW BW.size hb
                  replace h5 := blk_on h5 hb
                  clear hb
                  refine hK.out _ _ ⟨(blk_cell (blk_on z1 BW) 0).trans rfl, (blk_cell (blk_on z1 BW) 1).trans rfl⟩ (fun hHeld => ?_)
                  clear hK K
                  refine norm_ (a' := ?_) ?_ ?_
                  rotate_left
                  · show Act.put _ (some 13) _ = _
                    simp only [Act.put, List.setIfInBounds_toArray, List.set_cons_zero, List.set_cons_succ, i64_w, i32_w]
                    rfl
                  exact norm_ (by first | (simp only [putAll, Act.put, List.setIfInBounds_toArray, List.set_cons_zero, List.set_cons_succ]; done) | (simp only [putAll, Act.put, List.setIfInBounds_toArray, List.set_cons_zero, List.set_cons_succ]; rfl)) (hJ1_3_5 ⟨0, g5⟩ _ ⟨BW, l5, h5⟩)
                · skip
                  refine value_ (w1 := ?_) (v := ?_) (by rfl) rfl ?_ ?_
                  rotate_left 2
                  · go_simp
                    constructor
                    · rfl
                    · rfl
                  refine hK.out _ _ ⟨(blk_cell (blk_alloc (blk_on z1 BW) _) 0).trans rfl, (blk_cell (blk_alloc (blk_on z1 BW) _) 1).trans rfl⟩ (fun hHeld => ?_)
                  clear hK K
                  refine norm_ (a' := ?_) ?_ ?_
                  rotate_left
                  · show Act.put _ (some 4) _ = _
                    simp only [Act.put, List.setIfInBounds_toArray, List.set_cons_zero, List.set_cons_succ, i64_w, i32_w]
                    rfl
                  exact norm_ (by first | (simp only [putAll, Act.put, List.setIfInBounds_toArray, List.set_cons_zero, List.set_cons_succ]; done) | (simp only [putAll, Act.put, List.setIfInBounds_toArray, List.set_cons_zero, List.set_cons_succ]; rfl)) (hJ1_4_5 ⟨_, g5⟩ _ ⟨(BW.trans (((Below.refl _ _).alloc (Nat.le_refl _) _).mono BW.size)), BW.size, (MapKept.heap_alloc _ _).1, l5, blk_alloc h5 _, (Nat.ne_of_gt (blk_lt h5))⟩)
            · skip
              rintro ⟨g4, g5⟩ W ⟨BW, l4, h4⟩
              replace BW : Below W0.heap.size W0 W := BW
              replace h4 : W.heap[g4]? = some (.cells #[.int .u64 0, .int .u64 0] 24 (0, 0)) := h4
              replace l4 : W0.heap.size ≤ g4 := l4
              have k1 := blk_on z1 BW
              have hHeld : W.cell? ⟨p, 0, none⟩ = some (.int .u64 a) ∧ W.cell? ⟨p, 1, none⟩ = some (.int .u64 b) := ⟨(blk_cell k1 0).trans rfl, (blk_cell k1 1).trans rfl⟩
              clear k1
              refine norm_ (a' := ?_) ?_ ?_
              rotate_left
              · simp only [putAll, Act.put, List.setIfInBounds_toArray, List.set_cons_zero, List.set_cons_succ]
                rfl
              refine two_ (i := 3) (j := 5) (Ni := some 13) (Nj := some 5) #[true, true, true, true, true, false, false, false] #[true, true, true, false, true, true, false, false] rfl rfl rfl rfl (by kernel_rfl) (by decide) (by decide) (fun K hK => ?_) (fun K hK => ?_)
              · skip
                refine goes_ Try.func56 (by kernel_rfl) rfl #[.agg #[.int .u64 a, .int .u64 b]] (by rfl) rfl rfl (by simp only [List.map_toArray, List.map_cons, List.map_nil]; rfl) ?_
                refine (impl_WideReverseBytes.calls a b r3 r4 _ H2).mono ?_
                rintro e W2 ⟨rfl, hb⟩
                refine ⟨_, rfl, ?_⟩
                replace BW := on_ BW BW.size hb
                replace h4 := blk_on h4 hb
                clear hb
                refine hK.out _ _ ⟨(blk_cell (blk_on z1 BW) 0).trans rfl, (blk_cell (blk_on z1 BW) 1).trans rfl⟩ (fun hHeld => ?_)
                clear hK K
                refine norm_ (a' := ?_) ?_ ?_
                rotate_left
                · show Act.put _ (some 13) _ = _
                  simp only [Act.put, List.setIfInBounds_toArray, List.set_cons_zero, List.set_cons_succ, i64_w, i32_w]
                  rfl
                exact norm_ (by first | (simp only [putAll, Act.put, List.setIfInBounds_toArray, List.set_cons_zero, List.set_cons_succ]; done) | (simp only [putAll, Act.put, List.setIfInBounds_toArray, List.set_cons_zero, List.set_cons_succ]; rfl)) (hJ1_3_4 ⟨g4, 0⟩ _ ⟨BW, l4, h4⟩)
              · skip
                refine value_ (w1 := ?_) (v := ?_) (by rfl) rfl ?_ ?_
                rotate_left 2
                · go_simp
                  constructor
                  · rfl
                  · rfl
                refine hK.out _ _ ⟨(blk_cell (blk_alloc (blk_on z1 BW) _) 0).trans rfl, (blk_cell (blk_alloc (blk_on z1 BW) _) 1).trans rfl⟩ (fun hHeld => ?_)
                clear hK K
                refine norm_ (a' := ?_) ?_ ?_
                rotate_left
                · show Act.put _ (some 5) _ = _
                  simp only [Act.put, List.setIfInBounds_toArray, List.set_cons_zero, List.set_cons_succ, i64_w, i32_w]
                  rfl
                exact norm_ (by first | (simp only [putAll, Act.put, List.setIfInBounds_toArray, List.set_cons_zero, List.set_cons_succ]; done) | (simp only [putAll, Act.put, List.setIfInBounds_toArray, List.set_cons_zero, List.set_cons_succ]; rfl)) (hJ1_4_5 ⟨g4, _⟩ _ ⟨(BW.trans (((Below.refl _ _).alloc (Nat.le_refl _) _).mono BW.size)), l4, blk_alloc h4 _, BW.size, (MapKept.heap_alloc _ _).1, (Nat.ne_of_lt (blk_lt h4))⟩)
          · skip
            rintro ⟨g4, g5⟩ W BW
            replace BW : Below W0.heap.size W0 W := BW
            have k1 := blk_on z1 BW
            have hHeld : W.cell? ⟨p, 0, none⟩ = some (.int .u64 a) ∧ W.cell? ⟨p, 1, none⟩ = some (.int .u64 b) := ⟨(blk_cell k1 0).trans rfl, (blk_cell k1 1).trans rfl⟩
            clear k1
            refine norm_ (a' := ?_) ?_ ?_
            rotate_left
            · simp only [putAll, Act.put, List.setIfInBounds_toArray, List.set_cons_zero, List.set_cons_succ]
              rfl
            refine two_ (i := 4) (j := 5) (Ni := some 4) (Nj := some 5) #[true, true, true, true, true, false, false, false] #[true, true, true, true, false, true, false, false] rfl rfl rfl rfl (by kernel_rfl) (by decide) (by decide) (fun K hK => ?_) (fun K hK => ?_)
            · skip
              refine value_ (w1 := ?_) (v := ?_) (by rfl) rfl ?_ ?_
              rotate_left 2
              · go_simp
                constructor
                · rfl
                · rfl
              refine hK.out _ _ ⟨(blk_cell (blk_alloc (blk_on z1 BW) _) 0).trans rfl, (blk_cell (blk_alloc (blk_on z1 BW) _) 1).trans rfl⟩ (fun hHeld => ?_)
              clear hK K
              refine norm_ (a' := ?_) ?_ ?_
              rotate_left
              · show Act.put _ (some 4) _ = _
                simp only [Act.put, List.setIfInBounds_toArray, List.set_cons_zero, List.set_cons_succ, i64_w, i32_w]
                rfl
              exact norm_ (by first | (simp only [putAll, Act.put, List.setIfInBounds_toArray, List.set_cons_zero, List.set_cons_succ]; done) | (simp only [putAll, Act.put, List.setIfInBounds_toArray, List.set_cons_zero, List.set_cons_succ]; rfl)) (hJ1_3_4 ⟨_, 0⟩ _ ⟨(BW.trans (((Below.refl _ _).alloc (Nat.le_refl _) _).mono BW.size)), BW.size, (MapKept.heap_alloc _ _).1⟩)
            · skip
              refine value_ (w1 := ?_) (v := ?_) (by rfl) rfl ?_ ?_
              rotate_left 2
              · go_simp
                constructor
                · rfl
                · rfl
              refine hK.out _ _ ⟨(blk_cell (blk_alloc (blk_on z1 BW) _) 0).trans rfl, (blk_cell (blk_alloc (blk_on z1 BW) _) 1).trans rfl⟩ (fun hHeld => ?_)
              clear hK K
              refine norm_ (a' := ?_) ?_ ?_
              rotate_left
              · show Act.put _ (some 5) _ = _
                simp only [Act.put, List.setIfInBounds_toArray, List.set_cons_zero, List.set_cons_succ, i64_w, i32_w]
                rfl
              exact norm_ (by first | (simp only [putAll, Act.put, List.setIfInBounds_toArray, List.set_cons_zero, List.set_cons_succ]; done) | (simp only [putAll, Act.put, List.setIfInBounds_toArray, List.set_cons_zero, List.set_cons_succ]; rfl)) (hJ1_3_5 ⟨0, _⟩ _ ⟨(BW.trans (((Below.refl _ _).alloc (Nat.le_refl _) _).mono BW.size)), BW.size, (MapKept.heap_alloc _ _).1⟩)
        · skip
          rintro ⟨g4, g5⟩ W ⟨BW, l4, h4, l5, h5, n45⟩
          replace BW : Below W0.heap.size W0 W := BW
          replace h4 : W.heap[g4]? = some (.cells #[.int .u64 0, .int .u64 0] 24 (0, 0)) := h4
          replace l4 : W0.heap.size ≤ g4 := l4
          replace h5 : W.heap[g5]? = some (.cells #[.int .u64 0, .int .u64 0] 24 (0, 0)) := h5
          replace l5 : W0.heap.size ≤ g5 := l5
          have k1 := blk_on z1 BW
          have hHeld : W.cell? ⟨p, 0, none⟩ = some (.int .u64 a) ∧ W.cell? ⟨p, 1, none⟩ = some (.int .u64 b) := ⟨(blk_cell k1 0).trans rfl, (blk_cell k1 1).trans rfl⟩
          clear k1
          refine norm_ (a' := ?_) ?_ ?_
          rotate_left
          · simp only [putAll, Act.put, List.setIfInBounds_toArray, List.set_cons_zero, List.set_cons_succ]
            rfl
          refine one_ (i := 3) (N := some 13) #[true, true, true, true, true, true, false, false] rfl rfl (by kernel_rfl) (by decide) (fun K hK => ?_)
          refine goes_ Try.func56 (by kernel_rfl) rfl #[.agg #[.int .u64 a, .int .u64 b]] (by rfl) rfl rfl (by simp only [List.map_toArray, List.map_cons, List.map_nil]; rfl) ?_
          refine (impl_WideReverseBytes.calls a b r3 r4 _ H2).mono ?_
          rintro e W2 ⟨rfl, hb⟩
          refine ⟨_, rfl, ?_⟩
          replace BW := on_ BW BW.size hb
          replace h4 := blk_on h4 hb
          replace h5 := blk_on h5 hb
          clear hb
          refine hK.out _ _ ⟨(blk_cell (blk_on z1 BW) 0).trans rfl, (blk_cell (blk_on z1 BW) 1).trans rfl⟩ (fun hHeld => ?_)
          clear hK K
          refine norm_ (a' := ?_) ?_ ?_
          rotate_left
          · show Act.put _ (some 13) _ = _
            simp only [Act.put, List.setIfInBounds_toArray, List.set_cons_zero, List.set_cons_succ, i64_w, i32_w]
            rfl
          exact norm_ (by first | (simp only [putAll, Act.put, List.setIfInBounds_toArray, List.set_cons_zero, List.set_cons_succ]; done) | (simp only [putAll, Act.put, List.setIfInBounds_toArray, List.set_cons_zero, List.set_cons_succ]; rfl)) (hJ1_3_4_5 ⟨g4, g5⟩ _ ⟨BW, l4, h4, l5, h5, n45⟩)
      · skip
        rintro ⟨g4, g5⟩ W ⟨BW, l5, h5⟩
        replace BW : Below W0.heap.size W0 W := BW
        replace h5 : W.heap[g5]? = some (.cells #[.int .u64 0, .int .u64 0] 24 (0, 0)) := h5
        replace l5 : W0.heap.size ≤ g5 := l5
        have k1 := blk_on z1 BW
        have hHeld : W.cell? ⟨p, 0, none⟩ = some (.int .u64 a) ∧ W.cell? ⟨p, 1, none⟩ = some (.int .u64 b) := ⟨(blk_cell k1 0).trans rfl, (blk_cell k1 1).trans rfl⟩
        clear k1
        refine norm_ (a' := ?_) ?_ ?_
        rotate_left
        · simp only [putAll, Act.put, List.setIfInBounds_toArray, List.set_cons_zero, List.set_cons_succ]
          rfl
        refine one_ (i := 4) (N := some 4) #[true, true, true, true, true, true, false, false] rfl rfl (by kernel_rfl) (by decide) (fun K hK => ?_)
        refine value_ (w1 := ?_) (v := ?_) (by rfl) rfl ?_ ?_
        rotate_left 2
        · go_simp
          constructor
          · rfl
          · rfl
        refine hK.out _ _ ⟨(blk_cell (blk_alloc (blk_on z1 BW) _) 0).trans rfl, (blk_cell (blk_alloc (blk_on z1 BW) _) 1).trans rfl⟩ (fun hHeld => ?_)
        clear hK K
        refine norm_ (a' := ?_) ?_ ?_
        rotate_left
        · show Act.put _ (some 4) _ = _
          simp only [Act.put, List.setIfInBounds_toArray, List.set_cons_zero, List.set_cons_succ, i64_w, i32_w]
          rfl
        exact norm_ (by first | (simp only [putAll, Act.put, List.setIfInBounds_toArray, List.set_cons_zero, List.set_cons_succ]; done) | (simp only [putAll, Act.put, List.setIfInBounds_toArray, List.set_cons_zero, List.set_cons_succ]; rfl)) (hJ1_3_4_5 ⟨_, g5⟩ _ ⟨(BW.trans (((Below.refl _ _).alloc (Nat.le_refl _) _).mono BW.size)), BW.size, (MapKept.heap_alloc _ _).1, l5, blk_alloc h5 _, (Nat.ne_of_gt (blk_lt h5))⟩)
    · skip
      rintro ⟨g4, g5⟩ W ⟨BW, l4, h4⟩
      replace BW : Below W0.heap.size W0 W := BW
      replace h4 : W.heap[g4]? = some (.cells #[.int .u64 0, .int .u64 0] 24 (0, 0)) := h4
      replace l4 : W0.heap.size ≤ g4 := l4
      have k1 := blk_on z1 BW
      have hHeld : W.cell? ⟨p, 0, none⟩ = some (.int .u64 a) ∧ W.cell? ⟨p, 1, none⟩ = some (.int .u64 b) := ⟨(blk_cell k1 0).trans rfl, (blk_cell k1 1).trans rfl⟩
      clear k1
      refine norm_ (a' := ?_) ?_ ?_
      rotate_left
      · simp only [putAll, Act.put, List.setIfInBounds_toArray, List.set_cons_zero, List.set_cons_succ]
        rfl
      refine one_ (i := 5) (N := some 5) #[true, true, true, true, true, true, false, false] rfl rfl (by kernel_rfl) (by decide) (fun K hK => ?_)
      refine value_ (w1 := ?_) (v := ?_) (by rfl) rfl ?_ ?_
      rotate_left 2
      · go_simp
        constructor
        · rfl
        · rfl
      refine hK.out _ _ ⟨(blk_cell (blk_alloc (blk_on z1 BW) _) 0).trans rfl, (blk_cell (blk_alloc (blk_on z1 BW) _) 1).trans rfl⟩ (fun hHeld => ?_)
      clear hK K
      refine norm_ (a' := ?_) ?_ ?_
      rotate_left
      · show Act.put _ (some 5) _ = _
        simp only [Act.put, List.setIfInBounds_toArray, List.set_cons_zero, List.set_cons_succ, i64_w, i32_w]
        rfl
      exact norm_ (by first | (simp only [putAll, Act.put, List.setIfInBounds_toArray, List.set_cons_zero, List.set_cons_succ]; done) | (simp only [putAll, Act.put, List.setIfInBounds_toArray, List.set_cons_zero, List.set_cons_succ]; rfl)) (hJ1_3_4_5 ⟨g4, _⟩ _ ⟨(BW.trans (((Below.refl _ _).alloc (Nat.le_refl _) _).mono BW.size)), l4, blk_alloc h4 _, BW.size, (MapKept.heap_alloc _ _).1, (Nat.ne_of_lt (blk_lt h4))⟩)
  rintro ⟨g4, g5⟩ W ⟨BW, l4, h4, l5, h5, n45⟩
  replace BW : Below W0.heap.size W0 W := BW
  replace h4 : W.heap[g4]? = some (.cells #[.int .u64 0, .int .u64 0] 24 (0, 0)) := h4
  replace l4 : W0.heap.size ≤ g4 := l4
  replace h5 : W.heap[g5]? = some (.cells #[.int .u64 0, .int .u64 0] 24 (0, 0)) := h5
  replace l5 : W0.heap.size ≤ g5 := l5
  have k1 := blk_on z1 BW
  have hHeld : W.cell? ⟨p, 0, none⟩ = some (.int .u64 a) ∧ W.cell? ⟨p, 1, none⟩ = some (.int .u64 b) := ⟨(blk_cell k1 0).trans rfl, (blk_cell k1 1).trans rfl⟩
  clear k1
  refine norm_ (a' := ?_) ?_ ?_
  rotate_left
  · simp only [putAll, Act.put, List.setIfInBounds_toArray, List.set_cons_zero, List.set_cons_succ]
    rfl
  refine one_ (i := 6) (N := none) #[true, true, true, true, true, true, true, false] rfl rfl (by kernel_rfl) (by decide) (fun K hK => ?_)
  have c0 : W.cell? ⟨g4, 0, none⟩ = some (.int .u64 0) := (blk_cell h4 0).trans rfl
  have c1 : W.cell? ⟨g4, 1, none⟩ = some (.int .u64 0) := (blk_cell h4 1).trans rfl
  have f0 : W.frozen? ⟨g4, 0, none⟩ = false := blk_frozen h4 0
  have f1 : W.frozen? ⟨g4, 1, none⟩ = false := blk_frozen h4 1
  refine skip_ (w1 := ?_) (by rfl) rfl ?_ ?_
  rotate_left
  · go_simp
    rfl
  clear c0 c1 f0 f1
  replace BW : Below W0.heap.size W0 ((W.setCell ⟨g4, 0, none⟩ (.int .u64 r1)).setCell ⟨g4, 1, none⟩ (.int .u64 r2)) := (BW.setCell (p := ⟨g4, 0, none⟩) l4 _).setCell (p := ⟨g4, 1, none⟩) l4 _
  replace h4 := set2 h4 (.int .u64 r1) (.int .u64 r2)
  replace h5 := far2 h5 (Ne.symm n45) (.int .u64 r1) (.int .u64 r2)
  refine hK.out _ _ ⟨(blk_cell (blk_on z1 BW) 0).trans rfl, (blk_cell (blk_on z1 BW) 1).trans rfl⟩ (fun hHeld => ?_)
  clear hK K
  refine one_ (i := 7) (N := none) #[true, true, true, true, true, true, true, true] rfl rfl (by kernel_rfl) (by decide) (fun K hK => ?_)
  generalize hW : ((W.setCell ⟨g4, 0, none⟩ (.int .u64 r1)).setCell ⟨g4, 1, none⟩ (.int .u64 r2)) = W' at *
  clear hW
  skip
  have c0 : W'.cell? ⟨g5, 0, none⟩ = some (.int .u64 0) := (blk_cell h5 0).trans rfl
  have c1 : W'.cell? ⟨g5, 1, none⟩ = some (.int .u64 0) := (blk_cell h5 1).trans rfl
  have f0 : W'.frozen? ⟨g5, 0, none⟩ = false := blk_frozen h5 0
  have f1 : W'.frozen? ⟨g5, 1, none⟩ = false := blk_frozen h5 1
  refine skip_ (w1 := ?_) (by rfl) rfl ?_ ?_
  rotate_left
  · go_simp
    rfl
  clear c0 c1 f0 f1
  replace BW : Below W0.heap.size W0 ((W'.setCell ⟨g5, 0, none⟩ (.int .u64 r3)).setCell ⟨g5, 1, none⟩ (.int .u64 r4)) := (BW.setCell (p := ⟨g5, 0, none⟩) l5 _).setCell (p := ⟨g5, 1, none⟩) l5 _
  replace h5 := set2 h5 (.int .u64 r3) (.int .u64 r4)
  replace h4 := far2 h4 n45 (.int .u64 r3) (.int .u64 r4)
  refine hK.out _ _ ⟨(blk_cell (blk_on z1 BW) 0).trans rfl, (blk_cell (blk_on z1 BW) 1).trans rfl⟩ (fun hHeld => ?_)
  clear hK K
  refine done_ (by kernel_rfl) ?_
  go_wp2
  generalize ((W'.setCell ⟨g5, 0, none⟩ (.int .u64 r3)).setCell ⟨g5, 1, none⟩ (.int .u64 r4)) = W3 at BW h4 h5 ⊢
  refine start_ (n := 5) (S := fun w' => w'.cell? ⟨g4, 0, none⟩ = some (.int .u64 r1) ∧ w'.cell? ⟨g4, 1, none⟩ = some (.int .u64 r2)) (ds := []) #[false, false, false, false, false] (by kernel_rfl) rfl rfl ⟨(blk_cell h4 0).trans rfl, (blk_cell h4 1).trans rfl⟩ (fun hHeld => ?_)
  replace BW := BW.drew
  replace h4 := blk_drew h4
  replace h5 := blk_drew h5
  generalize W3.drew = W4 at BW h4 h5 hHeld ⊢
  refine pure_ (i := 1) (N := some 15) (v := ?_) (a' := ?_) #[false, true, false, false, false] rfl rfl (by kernel_rfl) (fun _ _ _ h => h) (Or.inl ⟨by rfl, ?_⟩) ?_ ?_
  rotate_left
  · intro w'
    go_simp
    with_reducible rfl
  rotate_left
  · simp only [Act.put, List.setIfInBounds_toArray, List.set_cons_zero, List.set_cons_succ, i64_w, i32_w]
    rfl
  refine take_ (i := 0) (N := some 14) (v := ?_) (a' := ?_) #[true, true, false, false, false] rfl rfl (by kernel_rfl) (fun _ _ _ h => h) (Or.inl ⟨by rfl, ?_⟩) hHeld ?_ ?_
  rotate_left
  · rintro w' ⟨s0, s1⟩
    go_simp
    with_reducible rfl
  rotate_left
  · simp only [Act.put, List.setIfInBounds_toArray, List.set_cons_zero, List.set_cons_succ, i64_w, i32_w]
    rfl
  refine one_ (i := 2) (N := some 16) #[true, true, true, false, false] rfl rfl (by kernel_rfl) (by decide) (fun K hK => ?_)
  refine goes_ Try.func39 (by kernel_rfl) rfl #[.int .i64 128, .func (.func 57) #[] #[.pointer (some ⟨xb, 0, none⟩)]] (by rfl) rfl rfl (by (try simp only [List.map_toArray, List.map_cons, List.map_nil]); first | done | rfl) ?_
  refine (ofBits_128 _ 57 _ (fun i => (N128 a b).testBit (127 - i)) (fun _ _ => rfl) (Lib.hid fun i W9 hi hW => ?_)).mono ?_
  · exact Reverse_1 i (N128 a b) xb A c W9 hi ((blk_cell (blk_on zx (on_ BW BW.size hW)) 0).trans rfl) hc (hr W9 (on_ BW BW.size hW))
  rintro e W9 ⟨v, rfl, hv, hb⟩
  refine ⟨_, rfl, ?_⟩
  have VV := Lib.hid hv
  clear hv
  obtain ⟨A', c', rfl⟩ := Kd.V_slice (id VV)
  replace BW := on_ BW BW.size hb
  replace h4 := blk_on h4 hb
  replace h5 := blk_on h5 hb
  clear hb
  refine hK.out _ _ ⟨(blk_cell h4 0).trans rfl, (blk_cell h4 1).trans rfl⟩ (fun hHeld => ?_)
  clear hK K
  refine norm_ (a' := ?_) ?_ ?_
  rotate_left
  · show Act.put _ (some 16) _ = _
    simp only [Act.put, List.setIfInBounds_toArray, List.set_cons_zero, List.set_cons_succ, i64_w, i32_w]
    rfl
  refine one_ (i := 3) (N := some 17) #[true, true, true, true, false] rfl rfl (by kernel_rfl) (by decide) (fun K hK => ?_)
  refine goes_ Try.func27 (by kernel_rfl) rfl #[.agg #[.int .u64 r1, .int .u64 r2], .slice A' (Dig.dg (Dig.ofb (fun i => (N128 a b).testBit (127 - i)) 128)).length c'] (by rfl) rfl rfl (by (try simp only [List.map_toArray, List.map_cons, List.map_nil]); first | done | rfl) ?_
  refine (laws_wideIs.calls 100 r1 r2 A' c' _ true _ (Kd.V_reads' (id VV)).2.2 (Kd.V_reads' (id VV)).2.1 HS1).mono ?_
  rintro e W9 ⟨rfl, hb⟩
  refine ⟨_, rfl, ?_⟩
  replace BW := on_ BW BW.size hb
  replace h4 := blk_on h4 hb
  replace h5 := blk_on h5 hb
  clear hb VV
  refine hK.out _ _ ⟨(blk_cell h4 0).trans rfl, (blk_cell h4 1).trans rfl⟩ (fun hHeld => ?_)
  clear hK K
  refine norm_ (a' := ?_) ?_ ?_
  rotate_left
  · show Act.put _ (some 17) _ = _
    simp only [Act.put, List.setIfInBounds_toArray, List.set_cons_zero, List.set_cons_succ, i64_w, i32_w]
    rfl
  refine pure_ (i := 4) (N := some 6) (v := ?_) (a' := ?_) #[true, true, true, true, true] rfl rfl (by kernel_rfl) (fun _ _ _ h => h) (Or.inl ⟨by rfl, ?_⟩) ?_ ?_
  rotate_left
  · intro w'
    go_simp
    with_reducible rfl
  rotate_left
  · simp only [Act.put, List.setIfInBounds_toArray, List.set_cons_zero, List.set_cons_succ, i64_w, i32_w]
    rfl
  refine done_ (by kernel_rfl) ?_
  go_wp2
  refine start_ (n := 5) (S := fun w' => w'.cell? ⟨g5, 0, none⟩ = some (.int .u64 r3) ∧ w'.cell? ⟨g5, 1, none⟩ = some (.int .u64 r4)) (ds := []) #[false, false, false, false, false] (by kernel_rfl) rfl rfl ⟨(blk_cell h5 0).trans rfl, (blk_cell h5 1).trans rfl⟩ (fun hHeld => ?_)
  replace BW := BW.drew
  replace h4 := blk_drew h4
  replace h5 := blk_drew h5
  refine pure_ (i := 1) (N := some 19) (v := ?_) (a' := ?_) #[false, true, false, false, false] rfl rfl (by kernel_rfl) (fun _ _ _ h => h) (Or.inl ⟨by rfl, ?_⟩) ?_ ?_
  rotate_left
  · intro w'
    go_simp
    with_reducible rfl
  rotate_left
  · simp only [Act.put, List.setIfInBounds_toArray, List.set_cons_zero, List.set_cons_succ, i64_w, i32_w]
    rfl
  refine take_ (i := 0) (N := some 18) (v := ?_) (a' := ?_) #[true, true, false, false, false] rfl rfl (by kernel_rfl) (fun _ _ _ h => h) (Or.inl ⟨by rfl, ?_⟩) hHeld ?_ ?_
  rotate_left
  · rintro w' ⟨s0, s1⟩
    go_simp
    with_reducible rfl
  rotate_left
  · simp only [Act.put, List.setIfInBounds_toArray, List.set_cons_zero, List.set_cons_succ, i64_w, i32_w]
    rfl
  refine one_ (i := 2) (N := some 20) #[true, true, true, false, false] rfl rfl (by kernel_rfl) (by decide) (fun K hK => ?_)
  refine goes_ Try.func39 (by kernel_rfl) rfl #[.int .i64 128, .func (.func 58) #[] #[.pointer (some ⟨xb, 0, none⟩)]] (by rfl) rfl rfl (by (try simp only [List.map_toArray, List.map_cons, List.map_nil]); first | done | rfl) ?_
  refine (ofBits_128 _ 58 _ (fun i => (N128 a b).testBit (8 * (15 - i / 8) + i % 8)) (fun _ _ => rfl) (Lib.hid fun i W9 hi hW => ?_)).mono ?_
  · exact Reverse_2 i (N128 a b) xb A c W9 hi ((blk_cell (blk_on zx (on_ BW BW.size hW)) 0).trans rfl) hc (hr W9 (on_ BW BW.size hW))
  rintro e W9 ⟨v, rfl, hv, hb⟩
  refine ⟨_, rfl, ?_⟩
  have VV := Lib.hid hv
  clear hv
  obtain ⟨A', c', rfl⟩ := Kd.V_slice (id VV)
  replace BW := on_ BW BW.size hb
  replace h4 := blk_on h4 hb
  replace h5 := blk_on h5 hb
  clear hb
  refine hK.out _ _ ⟨(blk_cell h5 0).trans rfl, (blk_cell h5 1).trans rfl⟩ (fun hHeld => ?_)
  clear hK K
  refine norm_ (a' := ?_) ?_ ?_
  rotate_left
  · show Act.put _ (some 20) _ = _
    simp only [Act.put, List.setIfInBounds_toArray, List.set_cons_zero, List.set_cons_succ, i64_w, i32_w]
    rfl
  refine one_ (i := 3) (N := some 21) #[true, true, true, true, false] rfl rfl (by kernel_rfl) (by decide) (fun K hK => ?_)
  refine goes_ Try.func27 (by kernel_rfl) rfl #[.agg #[.int .u64 r3, .int .u64 r4], .slice A' (Dig.dg (Dig.ofb (fun i => (N128 a b).testBit (8 * (15 - i / 8) + i % 8)) 128)).length c'] (by rfl) rfl rfl (by (try simp only [List.map_toArray, List.map_cons, List.map_nil]); first | done | rfl) ?_
  refine (laws_wideIs.calls 100 r3 r4 A' c' _ true _ (Kd.V_reads' (id VV)).2.2 (Kd.V_reads' (id VV)).2.1 HS2).mono ?_
  rintro e W9 ⟨rfl, hb⟩
  refine ⟨_, rfl, ?_⟩
  replace BW := on_ BW BW.size hb
  replace h4 := blk_on h4 hb
  replace h5 := blk_on h5 hb
  clear hb VV
  refine hK.out _ _ ⟨(blk_cell h5 0).trans rfl, (blk_cell h5 1).trans rfl⟩ (fun hHeld => ?_)
  clear hK K
  refine norm_ (a' := ?_) ?_ ?_
  rotate_left
  · show Act.put _ (some 21) _ = _
    simp only [Act.put, List.setIfInBounds_toArray, List.set_cons_zero, List.set_cons_succ, i64_w, i32_w]
    rfl
  refine pure_ (i := 4) (N := some 7) (v := ?_) (a' := ?_) #[true, true, true, true, true] rfl rfl (by kernel_rfl) (fun _ _ _ h => h) (Or.inl ⟨by rfl, ?_⟩) ?_ ?_
  rotate_left
  · intro w'
    go_simp
    with_reducible rfl
  rotate_left
  · simp only [Act.put, List.setIfInBounds_toArray, List.set_cons_zero, List.set_cons_succ, i64_w, i32_w]
    rfl
  refine done_ (by kernel_rfl) ?_
  go_wp2
  refine start_ (n := 17) (S := fun w' => w'.cell? ⟨g4, 0, none⟩ = some (.int .u64 r1) ∧ w'.cell? ⟨g4, 1, none⟩ = some (.int .u64 r2) ∧ w'.cell? ⟨g5, 0, none⟩ = some (.int .u64 r3) ∧ w'.cell? ⟨g5, 1, none⟩ = some (.int .u64 r4) ∧ w'.cell? ⟨p, 0, none⟩ = some (.int .u64 a) ∧ w'.cell? ⟨p, 1, none⟩ = some (.int .u64 b)) (ds := []) #[false, false, false, false, false, false, false, false, false, false, false, false, false, false, false, false, false] (by kernel_rfl) rfl rfl ⟨(blk_cell h4 0).trans rfl, (blk_cell h4 1).trans rfl, (blk_cell h5 0).trans rfl, (blk_cell h5 1).trans rfl, (blk_cell (blk_on z1 BW) 0).trans rfl, (blk_cell (blk_on z1 BW) 1).trans rfl⟩ (fun hHeld => ?_)
  replace BW := BW.drew
  replace h4 := blk_drew h4
  replace h5 := blk_drew h5
  refine pure_ (i := 0) (N := some 22) (v := ?_) (a' := ?_) #[true, false, false, false, false, false, false, false, false, false, false, false, false, false, false, false, false] rfl rfl (by kernel_rfl) (fun _ _ _ h => h) (Or.inl ⟨by rfl, ?_⟩) ?_ ?_
  rotate_left
  · intro w'
    go_simp
    with_reducible rfl
  rotate_left
  · simp only [Act.put, List.setIfInBounds_toArray, List.set_cons_zero, List.set_cons_succ, i64_w, i32_w]
    rfl
  refine pure_ (i := 1) (N := some 23) (v := ?_) (a' := ?_) #[true, true, false, false, false, false, false, false, false, false, false, false, false, false, false, false, false] rfl rfl (by kernel_rfl) (fun _ _ _ h => h) (Or.inl ⟨by rfl, ?_⟩) ?_ ?_
  rotate_left
  · intro w'
    go_simp
    with_reducible rfl
  rotate_left
  · simp only [Act.put, List.setIfInBounds_toArray, List.set_cons_zero, List.set_cons_succ, i64_w, i32_w]
    rfl
  refine pure_ (i := 2) (N := some 24) (v := ?_) (a' := ?_) #[true, true, true, false, false, false, false, false, false, false, false, false, false, false, false, false, false] rfl rfl (by kernel_rfl) (fun _ _ _ h => h) (Or.inl ⟨by rfl, ?_⟩) ?_ ?_
  rotate_left
  · intro w'
    go_simp
    with_reducible rfl
  rotate_left
  · simp only [Act.put, List.setIfInBounds_toArray, List.set_cons_zero, List.set_cons_succ, i64_w, i32_w]
    rfl
  refine pure_ (i := 3) (N := some 25) (v := ?_) (a' := ?_) #[true, true, true, true, false, false, false, false, false, false, false, false, false, false, false, false, false] rfl rfl (by kernel_rfl) (fun _ _ _ h => h) (Or.inl ⟨by rfl, ?_⟩) ?_ ?_
  rotate_left
  · intro w'
    go_simp
    with_reducible rfl
  rotate_left
  · simp only [Act.put, List.setIfInBounds_toArray, List.set_cons_zero, List.set_cons_succ, i64_w, i32_w]
    rfl
  refine pure_ (i := 4) (N := some 26) (v := ?_) (a' := ?_) #[true, true, true, true, true, false, false, false, false, false, false, false, false, false, false, false, false] rfl rfl (by kernel_rfl) (fun _ _ _ h => h) (Or.inl ⟨by rfl, ?_⟩) ?_ ?_
  rotate_left
  · intro w'
    go_simp
    with_reducible rfl
  rotate_left
  · simp only [Act.put, List.setIfInBounds_toArray, List.set_cons_zero, List.set_cons_succ, i64_w, i32_w]
    rfl
  refine take_ (i := 5) (N := some 27) (v := ?_) (a' := ?_) #[true, true, true, true, true, true, false, false, false, false, false, false, false, false, false, false, false] rfl rfl (by kernel_rfl) (fun _ _ _ h => h) (Or.inl ⟨by rfl, ?_⟩) hHeld ?_ ?_
  rotate_left
  · rintro w' ⟨s0, s1, s2, s3, s4, s5⟩
    go_simp
    with_reducible rfl
  rotate_left
  · simp only [Act.put, List.setIfInBounds_toArray, List.set_cons_zero, List.set_cons_succ, i64_w, i32_w]
    rfl
  refine take_ (i := 7) (N := some 29) (v := ?_) (a' := ?_) #[true, true, true, true, true, true, false, true, false, false, false, false, false, false, false, false, false] rfl rfl (by kernel_rfl) (fun _ _ _ h => h) (Or.inl ⟨by rfl, ?_⟩) hHeld ?_ ?_
  rotate_left
  · rintro w' ⟨s0, s1, s2, s3, s4, s5⟩
    go_simp
    with_reducible rfl
  rotate_left
  · simp only [Act.put, List.setIfInBounds_toArray, List.set_cons_zero, List.set_cons_succ, i64_w, i32_w]
    rfl
  refine one_ (i := 6) (N := some 28) #[true, true, true, true, true, true, true, true, false, false, false, false, false, false, false, false, false] rfl rfl (by kernel_rfl) (by decide) (fun K hK => ?_)
  refine goes_ Try.func55 (by kernel_rfl) rfl #[.agg #[.int .u64 r1, .int .u64 r2]] (by rfl) rfl rfl (by (try simp only [List.map_toArray, List.map_cons, List.map_nil]); first | done | rfl) ?_
  refine (impl_WideReverse.calls r1 r2 a b _ H3).mono ?_
  rintro e W9 ⟨rfl, hb⟩
  refine ⟨_, rfl, ?_⟩
  replace BW := on_ BW BW.size hb
  replace h4 := blk_on h4 hb
  replace h5 := blk_on h5 hb
  clear hb
  refine hK.out _ _ ⟨(blk_cell h4 0).trans rfl, (blk_cell h4 1).trans rfl, (blk_cell h5 0).trans rfl, (blk_cell h5 1).trans rfl, (blk_cell (blk_on z1 BW) 0).trans rfl, (blk_cell (blk_on z1 BW) 1).trans rfl⟩ (fun hHeld => ?_)
  clear hK K
  refine norm_ (a' := ?_) ?_ ?_
  rotate_left
  · show Act.put _ (some 28) _ = _
    simp only [Act.put, List.setIfInBounds_toArray, List.set_cons_zero, List.set_cons_succ, i64_w, i32_w]
    rfl
  refine pure_ (i := 8) (N := some 30) (v := ?_) (a' := ?_) #[true, true, true, true, true, true, true, true, true, false, false, false, false, false, false, false, false] rfl rfl (by kernel_rfl) (fun _ _ _ h => h) (Or.inl ⟨by rfl, ?_⟩) ?_ ?_
  rotate_left
  · intro w'
    go_simp
    with_reducible rfl
  rotate_left
  · simp only [Act.put, List.setIfInBounds_toArray, List.set_cons_zero, List.set_cons_succ, i64_w, i32_w]
    rfl
  refine pure_ (i := 9) (N := some 31) (v := ?_) (a' := ?_) #[true, true, true, true, true, true, true, true, true, true, false, false, false, false, false, false, false] rfl rfl (by kernel_rfl) (fun _ _ _ h => h) (Or.inl ⟨by rfl, ?_⟩) ?_ ?_
  rotate_left
  · intro w'
    go_simp
    with_reducible rfl
  rotate_left
  · simp only [Act.put, List.setIfInBounds_toArray, List.set_cons_zero, List.set_cons_succ, i64_w, i32_w]
    rfl
  refine pure_ (i := 10) (N := some 32) (v := ?_) (a' := ?_) #[true, true, true, true, true, true, true, true, true, true, true, false, false, false, false, false, false] rfl rfl (by kernel_rfl) (fun _ _ _ h => h) (Or.inl ⟨by rfl, ?_⟩) ?_ ?_
  rotate_left
  · intro w'
    go_simp
    with_reducible rfl
  rotate_left
  · simp only [Act.put, List.setIfInBounds_toArray, List.set_cons_zero, List.set_cons_succ, i64_w, i32_w]
    rfl
  refine take_ (i := 11) (N := some 33) (v := ?_) (a' := ?_) #[true, true, true, true, true, true, true, true, true, true, true, true, false, false, false, false, false] rfl rfl (by kernel_rfl) (fun _ _ _ h => h) (Or.inl ⟨by rfl, ?_⟩) hHeld ?_ ?_
  rotate_left
  · rintro w' ⟨s0, s1, s2, s3, s4, s5⟩
    go_simp
    with_reducible rfl
  rotate_left
  · simp only [Act.put, List.setIfInBounds_toArray, List.set_cons_zero, List.set_cons_succ, i64_w, i32_w]
    rfl
  refine take_ (i := 13) (N := some 35) (v := ?_) (a' := ?_) #[true, true, true, true, true, true, true, true, true, true, true, true, false, true, false, false, false] rfl rfl (by kernel_rfl) (fun _ _ _ h => h) (Or.inl ⟨by rfl, ?_⟩) hHeld ?_ ?_
  rotate_left
  · rintro w' ⟨s0, s1, s2, s3, s4, s5⟩
    go_simp
    with_reducible rfl
  rotate_left
  · simp only [Act.put, List.setIfInBounds_toArray, List.set_cons_zero, List.set_cons_succ, i64_w, i32_w]
    rfl
  refine one_ (i := 12) (N := some 34) #[true, true, true, true, true, true, true, true, true, true, true, true, true, true, false, false, false] rfl rfl (by kernel_rfl) (by decide) (fun K hK => ?_)
  refine goes_ Try.func56 (by kernel_rfl) rfl #[.agg #[.int .u64 r3, .int .u64 r4]] (by rfl) rfl rfl (by (try simp only [List.map_toArray, List.map_cons, List.map_nil]); first | done | rfl) ?_
  refine (impl_WideReverseBytes.calls r3 r4 a b _ H4).mono ?_
  rintro e W9 ⟨rfl, hb⟩
  refine ⟨_, rfl, ?_⟩
  replace BW := on_ BW BW.size hb
  replace h4 := blk_on h4 hb
  replace h5 := blk_on h5 hb
  clear hb
  refine hK.out _ _ ⟨(blk_cell h4 0).trans rfl, (blk_cell h4 1).trans rfl, (blk_cell h5 0).trans rfl, (blk_cell h5 1).trans rfl, (blk_cell (blk_on z1 BW) 0).trans rfl, (blk_cell (blk_on z1 BW) 1).trans rfl⟩ (fun hHeld => ?_)
  clear hK K
  refine norm_ (a' := ?_) ?_ ?_
  rotate_left
  · show Act.put _ (some 34) _ = _
    simp only [Act.put, List.setIfInBounds_toArray, List.set_cons_zero, List.set_cons_succ, i64_w, i32_w]
    rfl
  refine pure_ (i := 14) (N := some 36) (v := ?_) (a' := ?_) #[true, true, true, true, true, true, true, true, true, true, true, true, true, true, true, false, false] rfl rfl (by kernel_rfl) (fun _ _ _ h => h) (Or.inl ⟨by rfl, ?_⟩) ?_ ?_
  rotate_left
  · intro w'
    go_simp
    with_reducible rfl
  rotate_left
  · simp only [Act.put, List.setIfInBounds_toArray, List.set_cons_zero, List.set_cons_succ, i64_w, i32_w]
    rfl
  refine pure_ (i := 15) (N := some 37) (v := ?_) (a' := ?_) #[true, true, true, true, true, true, true, true, true, true, true, true, true, true, true, true, false] rfl rfl (by kernel_rfl) (fun _ _ _ h => h) (Or.inl ⟨by rfl, ?_⟩) ?_ ?_
  rotate_left
  · intro w'
    go_simp
    with_reducible rfl
  rotate_left
  · simp only [Act.put, List.setIfInBounds_toArray, List.set_cons_zero, List.set_cons_succ, i64_w, i32_w]
    rfl
  refine pure_ (i := 16) (N := some 2) (v := ?_) (a' := ?_) #[true, true, true, true, true, true, true, true, true, true, true, true, true, true, true, true, true] rfl rfl (by kernel_rfl) (fun _ _ _ h => h) (Or.inl ⟨by rfl, ?_⟩) ?_ ?_
  rotate_left
  · intro w'
    go_simp
    with_reducible rfl
  rotate_left
  · simp only [Act.put, List.setIfInBounds_toArray, List.set_cons_zero, List.set_cons_succ, i64_w, i32_w]
    rfl
  refine done_ (by kernel_rfl) ?_
  go_wp2
  go_ret
  exact ⟨rfl, B0.trans (BW.mono B0.size)⟩
theorem reverse_walk (a b : Int) (ha : 0 ≤ a ∧ a ≤ 18446744073709551615) (hb : 0 ≤ b ∧ b ≤ 18446744073709551615) (w : World) :
    Calls Try.prog 13 #[.agg #[.int .u64 a, .int .u64 b]] w fun e w' => e = .returned (.bool true) ∧ Below w.heap.size w w' := by
  obtain ⟨x, rfl, hx⟩ := (U64.of ha).nat
  obtain ⟨y, rfl, hy⟩ := (U64.of hb).nat
  refine rev_call _ _ (U64.of ha) (U64.of hb) _ _ _ _ w (impl_reverse x y hx hy) (impl_reverseBytes x y hx hy) ?_ ?_ (reverse_bits x y hx hy) (reverseBytes_bits x y hx hy)
  · rw [impl_reverse _ _ (revBits_lt y) (revBits_lt x), rev_rev x hx, rev_rev y hy]
  · rw [impl_reverseBytes _ _ (revBytes_lt y) (revBytes_lt x), revB_revB x hx, revB_revB y hy]
end Go.Proofs.Ytiifnofghicnaaa.PAll
