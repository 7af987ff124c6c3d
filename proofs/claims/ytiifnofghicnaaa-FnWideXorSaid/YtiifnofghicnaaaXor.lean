/- FnWideXor: bit by bit. Walked by hand (function literals). -/
import Derived.Test.YtiifnofghicnaaaWideBits
import Derived.Test.YtiifnofghicnaaaQAllx22
namespace Go.Proofs.Ytiifnofghicnaaa.PAll
open Go.RowKit Go.Proofs.YtiifnofghicnaaaW.PrintWords Go.Proofs.YtiifnofghicnaaaW.PrintLast Go.Proofs.YtiifnofghicnaaaW.PrintMore
set_option maxHeartbeats 1000000 in
set_option maxRecDepth 100000 in
theorem Xor_1 (u v : Bool) (W : World) : Calls Try.prog 35 #[.bool u, .bool v] W (fun e W' => e = .returned (.bool ((fun u v => u != v) u v)) ∧ Below W.heap.size W W') := by
  cases u <;> cases v <;>
  · go_enter Try.func35, Try.ntmps35
    go_wp2
    go_ret
    exact ⟨rfl, Below.refl _ _⟩
set_option maxHeartbeats 4000000 in
set_option maxRecDepth 100000 in
theorem xor_call (a b c d e : Int) (ha : U64 a) (hb : U64 b) (hc : U64 c) (hd : U64 d) (he : U64 e) (r1 r2 r3 r4 : Int) (w : World) (h1 : impl_WideXor.f a b c d = some (r1, r2)) (h2 : impl_WideXor64.f a b e = some (r3, r4))
   (hs1 : laws_wideIs.f 100 r1 r2 (Dig.dg (Dig.ofb (fun i => (fun u v => u != v) ((N128 a b).testBit i) ((N128 c d).testBit i)) 128)) = some true) (hs2 : laws_wideIs.f 100 r3 r4 (Dig.dg (Dig.ofb (fun i => (fun u v => u != v) ((N128 a b).testBit i) (e.toNat.testBit i)) 128)) = some true) :
    Calls Try.prog 6 #[.agg #[.int .u64 a, .int .u64 b], .agg #[.int .u64 c, .int .u64 d], .int .u64 e] w fun e w' => e = .returned (.bool true) ∧ Below w.heap.size w w' := by
  have H1 := Lib.hid h1
  have H2 := Lib.hid h2
  have HS1 := Lib.hid hs1
  have HS2 := Lib.hid hs2
  have HA := Lib.hid (whole_law ha hb)
  have HC := Lib.hid (whole_law hc hd)
  have HE := Lib.hid (small_law he)
  clear h1 h2 hs1 hs2 ha hb hc hd he
  go_enter Try.func6, Try.ntmps6
  go_wp2_with fail
  obtain ⟨k1, k2, BB, z5⟩ := box2 w (.cells #[.int .u64 a, .int .u64 b] 24) (.cells #[.int .u64 c, .int .u64 d] 24)
  clear z5
  generalize hp : w.heap.size = p at k1 k2 ⊢
  generalize hq : p + 1 = q at k2 ⊢
  generalize (w.alloc (.cells #[.int .u64 a, .int .u64 b] 24)).alloc (.cells #[.int .u64 c, .int .u64 d] 24) = W0 at *
  refine start_ (n := 23) (S := fun w' => w'.cell? ⟨p, 0, none⟩ = some (.int .u64 a) ∧ w'.cell? ⟨p, 1, none⟩ = some (.int .u64 b) ∧ w'.cell? ⟨q, 0, none⟩ = some (.int .u64 c) ∧ w'.cell? ⟨q, 1, none⟩ = some (.int .u64 d)) (ds := []) #[false, false, false, false, false, false, false, false, false, false, false, false, false, false, false, false, false, false, false, false, false, false, false] (by kernel_rfl) rfl rfl ⟨(blk_cell k1 0).trans rfl, (blk_cell k1 1).trans rfl, (blk_cell k2 0).trans rfl, (blk_cell k2 1).trans rfl⟩ (fun hHeld => ?_)
  replace k1 := blk_drew k1
  replace k2 := blk_drew k2
  replace BB := BB.drew
  generalize W0.drew = W1 at k1 k2 BB hHeld ⊢
  refine take_ (i := 0) (N := some 8) (v := ?_) (a' := ?_) #[true, false, false, false, false, false, false, false, false, false, false, false, false, false, false, false, false, false, false, false, false, false, false] rfl rfl (by kernel_rfl) (fun _ _ _ h => h) (Or.inl ⟨by rfl, ?_⟩) hHeld ?_ ?_
  rotate_left
  · rintro w' ⟨s0, s1, s2, s3⟩
    go_simp
    with_reducible rfl
  rotate_left
  · simp only [Act.put, List.setIfInBounds_toArray, List.set_cons_zero, List.set_cons_succ]
    rfl
  refine take_ (i := 1) (N := some 9) (v := ?_) (a' := ?_) #[true, true, false, false, false, false, false, false, false, false, false, false, false, false, false, false, false, false, false, false, false, false, false] rfl rfl (by kernel_rfl) (fun _ _ _ h => h) (Or.inl ⟨by rfl, ?_⟩) hHeld ?_ ?_
  rotate_left
  · rintro w' ⟨s0, s1, s2, s3⟩
    go_simp
    with_reducible rfl
  rotate_left
  · simp only [Act.put, List.setIfInBounds_toArray, List.set_cons_zero, List.set_cons_succ]
    rfl
  refine take_ (i := 3) (N := some 11) (v := ?_) (a' := ?_) #[true, true, false, true, false, false, false, false, false, false, false, false, false, false, false, false, false, false, false, false, false, false, false] rfl rfl (by kernel_rfl) (fun _ _ _ h => h) (Or.inl ⟨by rfl, ?_⟩) hHeld ?_ ?_
  rotate_left
  · rintro w' ⟨s0, s1, s2, s3⟩
    go_simp
    with_reducible rfl
  rotate_left
  · simp only [Act.put, List.setIfInBounds_toArray, List.set_cons_zero, List.set_cons_succ]
    rfl
  refine take_ (i := 5) (N := some 13) (v := ?_) (a' := ?_) #[true, true, false, true, false, true, false, false, false, false, false, false, false, false, false, false, false, false, false, false, false, false, false] rfl rfl (by kernel_rfl) (fun _ _ _ h => h) (Or.inl ⟨by rfl, ?_⟩) hHeld ?_ ?_
  rotate_left
  · rintro w' ⟨s0, s1, s2, s3⟩
    go_simp
    with_reducible rfl
  rotate_left
  · simp only [Act.put, List.setIfInBounds_toArray, List.set_cons_zero, List.set_cons_succ]
    rfl
  refine pure_ (i := 7) (N := some 15) (v := ?_) (a' := ?_) #[true, true, false, true, false, true, false, true, false, false, false, false, false, false, false, false, false, false, false, false, false, false, false] rfl rfl (by kernel_rfl) (fun _ _ _ h => h) (Or.inl ⟨by rfl, ?_⟩) ?_ ?_
  rotate_left
  · intro w'
    go_simp
    with_reducible rfl
  rotate_left
  · simp only [Act.put, List.setIfInBounds_toArray, List.set_cons_zero, List.set_cons_succ]
    rfl
  refine one_ (i := 2) (N := some 10) #[true, true, true, true, false, true, false, true, false, false, false, false, false, false, false, false, false, false, false, false, false, false, false] rfl rfl (by kernel_rfl) (by decide) (fun K hK => ?_)
  refine goes_ Try.func36 (by kernel_rfl) rfl #[.agg #[.int .u64 a, .int .u64 b], .agg #[.int .u64 c, .int .u64 d]] (by rfl) rfl rfl (by (try simp only [List.map_toArray, List.map_cons, List.map_nil]); first | done | rfl) ?_
  refine (impl_WideXor.calls a b c d r1 r2 _ H1).mono ?_
  rintro e W2 ⟨rfl, hb⟩
  refine ⟨_, rfl, ?_⟩
  replace k1 := blk_on k1 hb
  replace k2 := blk_on k2 hb
  replace BB := on_ BB BB.size hb
  clear hb
  refine hK.out _ _ ⟨(blk_cell k1 0).trans rfl, (blk_cell k1 1).trans rfl, (blk_cell k2 0).trans rfl, (blk_cell k2 1).trans rfl⟩ (fun hHeld => ?_)
  clear hK K
  refine norm_ (a' := ?_) ?_ ?_
  rotate_left
  · show Act.put _ (some 10) _ = _
    simp only [Act.put, List.setIfInBounds_toArray, List.set_cons_zero, List.set_cons_succ]
    rfl
  refine one_ (i := 4) (N := some 12) #[true, true, true, true, true, true, false, true, false, false, false, false, false, false, false, false, false, false, false, false, false, false, false] rfl rfl (by kernel_rfl) (by decide) (fun K hK => ?_)
  refine goes_ Try.func25 (by kernel_rfl) rfl #[.agg #[.int .u64 a, .int .u64 b]] (by rfl) rfl rfl (by (try simp only [List.map_toArray, List.map_cons, List.map_nil]); first | done | rfl) ?_
  refine (laws_wideWhole.calls a b _ _ HA).mono ?_
  rintro e W2 ⟨v, rfl, hv, hb⟩
  refine ⟨_, rfl, ?_⟩
  have VX := Lib.hid hv
  clear hv
  obtain ⟨AVX, cVX, rfl⟩ := Kd.V_slice (id VX)
  replace k1 := blk_on k1 hb
  replace k2 := blk_on k2 hb
  replace BB := on_ BB BB.size hb
  clear hb
  refine hK.out _ _ ⟨(blk_cell k1 0).trans rfl, (blk_cell k1 1).trans rfl, (blk_cell k2 0).trans rfl, (blk_cell k2 1).trans rfl⟩ (fun hHeld => ?_)
  clear hK K
  refine norm_ (a' := ?_) ?_ ?_
  rotate_left
  · show Act.put _ (some 12) _ = _
    simp only [Act.put, List.setIfInBounds_toArray, List.set_cons_zero, List.set_cons_succ]
    rfl
  refine one_ (i := 6) (N := some 14) #[true, true, true, true, true, true, true, true, false, false, false, false, false, false, false, false, false, false, false, false, false, false, false] rfl rfl (by kernel_rfl) (by decide) (fun K hK => ?_)
  refine goes_ Try.func25 (by kernel_rfl) rfl #[.agg #[.int .u64 c, .int .u64 d]] (by rfl) rfl rfl (by (try simp only [List.map_toArray, List.map_cons, List.map_nil]); first | done | rfl) ?_
  refine (laws_wideWhole.calls c d _ _ HC).mono ?_
  rintro e W2 ⟨v, rfl, hv, hb⟩
  refine ⟨_, rfl, ?_⟩
  have VY := Lib.hid hv
  clear hv
  obtain ⟨AVY, cVY, rfl⟩ := Kd.V_slice (id VY)
  replace VX := Lib.hid (Kd.V_below (id VX) hb)
  replace k1 := blk_on k1 hb
  replace k2 := blk_on k2 hb
  replace BB := on_ BB BB.size hb
  clear hb
  refine hK.out _ _ ⟨(blk_cell k1 0).trans rfl, (blk_cell k1 1).trans rfl, (blk_cell k2 0).trans rfl, (blk_cell k2 1).trans rfl⟩ (fun hHeld => ?_)
  clear hK K
  refine norm_ (a' := ?_) ?_ ?_
  rotate_left
  · show Act.put _ (some 14) _ = _
    simp only [Act.put, List.setIfInBounds_toArray, List.set_cons_zero, List.set_cons_succ]
    rfl
  refine one_ (i := 8) (N := some 16) #[true, true, true, true, true, true, true, true, true, false, false, false, false, false, false, false, false, false, false, false, false, false, false] rfl rfl (by kernel_rfl) (by decide) (fun K hK => ?_)
  refine goes_ Try.func29 (by kernel_rfl) rfl #[.slice AVX (Dig.dg (N128 a b)).length cVX, .slice AVY (Dig.dg (N128 c d)).length cVY, .func (.func 35) #[] #[]] (by rfl) rfl rfl (by (try simp only [List.map_toArray, List.map_cons, List.map_nil]); first | done | rfl) ?_
  refine (wideBits_calls (N128 a b) (N128 c d) (fun u v => u != v) 35 AVX AVY cVX cVY _ (fun _ _ => rfl) Xor_1 (Kd.V_reads' (id VX)).2.1 (fun W hW => (Kd.V_reads' (Kd.V_below (id VX) hW)).2.2) (Kd.V_reads' (id VY)).2.1 (fun W hW => (Kd.V_reads' (Kd.V_below (id VY) hW)).2.2)).mono ?_
  rintro e W2 ⟨v, rfl, hv, hb⟩
  refine ⟨_, rfl, ?_⟩
  have VB := Lib.hid hv
  clear hv
  obtain ⟨AVB, cVB, rfl⟩ := Kd.V_slice (id VB)
  replace VX := Lib.hid (Kd.V_below (id VX) hb)
  replace VY := Lib.hid (Kd.V_below (id VY) hb)
  replace k1 := blk_on k1 hb
  replace k2 := blk_on k2 hb
  replace BB := on_ BB BB.size hb
  clear hb
  refine hK.out _ _ ⟨(blk_cell k1 0).trans rfl, (blk_cell k1 1).trans rfl, (blk_cell k2 0).trans rfl, (blk_cell k2 1).trans rfl⟩ (fun hHeld => ?_)
  clear hK K
  refine norm_ (a' := ?_) ?_ ?_
  rotate_left
  · show Act.put _ (some 16) _ = _
    simp only [Act.put, List.setIfInBounds_toArray, List.set_cons_zero, List.set_cons_succ]
    rfl
  refine one_ (i := 9) (N := some 17) #[true, true, true, true, true, true, true, true, true, true, false, false, false, false, false, false, false, false, false, false, false, false, false] rfl rfl (by kernel_rfl) (by decide) (fun K hK => ?_)
  refine goes_ Try.func27 (by kernel_rfl) rfl #[.agg #[.int .u64 r1, .int .u64 r2], .slice AVB (Dig.dg (Dig.ofb (fun i => (fun u v => u != v) ((N128 a b).testBit i) ((N128 c d).testBit i)) 128)).length cVB] (by rfl) rfl rfl (by (try simp only [List.map_toArray, List.map_cons, List.map_nil]); first | done | rfl) ?_
  refine (laws_wideIs.calls 100 r1 r2 AVB cVB _ true _ (Kd.V_reads' (id VB)).2.2 (Kd.V_reads' (id VB)).2.1 HS1).mono ?_
  rintro e W2 ⟨rfl, hb⟩
  refine ⟨_, rfl, ?_⟩
  replace VX := Lib.hid (Kd.V_below (id VX) hb)
  replace VY := Lib.hid (Kd.V_below (id VY) hb)
  replace VB := Lib.hid (Kd.V_below (id VB) hb)
  replace k1 := blk_on k1 hb
  replace k2 := blk_on k2 hb
  replace BB := on_ BB BB.size hb
  clear hb
  refine hK.out _ _ ⟨(blk_cell k1 0).trans rfl, (blk_cell k1 1).trans rfl, (blk_cell k2 0).trans rfl, (blk_cell k2 1).trans rfl⟩ (fun hHeld => ?_)
  clear hK K
  refine norm_ (a' := ?_) ?_ ?_
  rotate_left
  · show Act.put _ (some 17) _ = _
    simp only [Act.put, List.setIfInBounds_toArray, List.set_cons_zero, List.set_cons_succ]
    rfl
  refine pure_ (i := 10) (N := some 18) (v := ?_) (a' := ?_) #[true, true, true, true, true, true, true, true, true, true, true, false, false, false, false, false, false, false, false, false, false, false, false] rfl rfl (by kernel_rfl) (fun _ _ _ h => h) (Or.inl ⟨by rfl, ?_⟩) ?_ ?_
  rotate_left
  · intro w'
    go_simp
    with_reducible rfl
  rotate_left
  · simp only [Act.put, List.setIfInBounds_toArray, List.set_cons_zero, List.set_cons_succ]
    rfl
  refine take_ (i := 11) (N := some 19) (v := ?_) (a' := ?_) #[true, true, true, true, true, true, true, true, true, true, true, true, false, false, false, false, false, false, false, false, false, false, false] rfl rfl (by kernel_rfl) (fun _ _ _ h => h) (Or.inl ⟨by rfl, ?_⟩) hHeld ?_ ?_
  rotate_left
  · rintro w' ⟨s0, s1, s2, s3⟩
    go_simp
    with_reducible rfl
  rotate_left
  · simp only [Act.put, List.setIfInBounds_toArray, List.set_cons_zero, List.set_cons_succ]
    rfl
  refine pure_ (i := 12) (N := some 20) (v := ?_) (a' := ?_) #[true, true, true, true, true, true, true, true, true, true, true, true, true, false, false, false, false, false, false, false, false, false, false] rfl rfl (by kernel_rfl) (fun _ _ _ h => h) (Or.inl ⟨by rfl, ?_⟩) ?_ ?_
  rotate_left
  · intro w'
    go_simp
    with_reducible rfl
  rotate_left
  · simp only [Act.put, List.setIfInBounds_toArray, List.set_cons_zero, List.set_cons_succ]
    rfl
  refine take_ (i := 14) (N := some 22) (v := ?_) (a' := ?_) #[true, true, true, true, true, true, true, true, true, true, true, true, true, false, true, false, false, false, false, false, false, false, false] rfl rfl (by kernel_rfl) (fun _ _ _ h => h) (Or.inl ⟨by rfl, ?_⟩) hHeld ?_ ?_
  rotate_left
  · rintro w' ⟨s0, s1, s2, s3⟩
    go_simp
    with_reducible rfl
  rotate_left
  · simp only [Act.put, List.setIfInBounds_toArray, List.set_cons_zero, List.set_cons_succ]
    rfl
  refine pure_ (i := 16) (N := some 24) (v := ?_) (a' := ?_) #[true, true, true, true, true, true, true, true, true, true, true, true, true, false, true, false, true, false, false, false, false, false, false] rfl rfl (by kernel_rfl) (fun _ _ _ h => h) (Or.inl ⟨by rfl, ?_⟩) ?_ ?_
  rotate_left
  · intro w'
    go_simp
    with_reducible rfl
  rotate_left
  · simp only [Act.put, List.setIfInBounds_toArray, List.set_cons_zero, List.set_cons_succ]
    rfl
  refine pure_ (i := 18) (N := some 26) (v := ?_) (a' := ?_) #[true, true, true, true, true, true, true, true, true, true, true, true, true, false, true, false, true, false, true, false, false, false, false] rfl rfl (by kernel_rfl) (fun _ _ _ h => h) (Or.inl ⟨by rfl, ?_⟩) ?_ ?_
  rotate_left
  · intro w'
    go_simp
    with_reducible rfl
  rotate_left
  · simp only [Act.put, List.setIfInBounds_toArray, List.set_cons_zero, List.set_cons_succ]
    rfl
  refine one_ (i := 13) (N := some 21) #[true, true, true, true, true, true, true, true, true, true, true, true, true, true, true, false, true, false, true, false, false, false, false] rfl rfl (by kernel_rfl) (by decide) (fun K hK => ?_)
  refine goes_ Try.func37 (by kernel_rfl) rfl #[.agg #[.int .u64 a, .int .u64 b], .int .u64 e] (by rfl) rfl rfl (by (try simp only [List.map_toArray, List.map_cons, List.map_nil]); first | done | rfl) ?_
  refine (impl_WideXor64.calls a b e r3 r4 _ H2).mono ?_
  rintro e W2 ⟨rfl, hb⟩
  refine ⟨_, rfl, ?_⟩
  replace k1 := blk_on k1 hb
  replace k2 := blk_on k2 hb
  replace BB := on_ BB BB.size hb
  clear hb
  refine hK.out _ _ ⟨(blk_cell k1 0).trans rfl, (blk_cell k1 1).trans rfl, (blk_cell k2 0).trans rfl, (blk_cell k2 1).trans rfl⟩ (fun hHeld => ?_)
  clear hK K
  refine norm_ (a' := ?_) ?_ ?_
  rotate_left
  · show Act.put _ (some 21) _ = _
    simp only [Act.put, List.setIfInBounds_toArray, List.set_cons_zero, List.set_cons_succ]
    rfl
  refine one_ (i := 15) (N := some 23) #[true, true, true, true, true, true, true, true, true, true, true, true, true, true, true, true, true, false, true, false, false, false, false] rfl rfl (by kernel_rfl) (by decide) (fun K hK => ?_)
  refine goes_ Try.func25 (by kernel_rfl) rfl #[.agg #[.int .u64 a, .int .u64 b]] (by rfl) rfl rfl (by (try simp only [List.map_toArray, List.map_cons, List.map_nil]); first | done | rfl) ?_
  refine (laws_wideWhole.calls a b _ _ HA).mono ?_
  rintro e W2 ⟨v, rfl, hv, hb⟩
  refine ⟨_, rfl, ?_⟩
  have VU := Lib.hid hv
  clear hv
  obtain ⟨AVU, cVU, rfl⟩ := Kd.V_slice (id VU)
  replace k1 := blk_on k1 hb
  replace k2 := blk_on k2 hb
  replace BB := on_ BB BB.size hb
  clear hb
  refine hK.out _ _ ⟨(blk_cell k1 0).trans rfl, (blk_cell k1 1).trans rfl, (blk_cell k2 0).trans rfl, (blk_cell k2 1).trans rfl⟩ (fun hHeld => ?_)
  clear hK K
  refine norm_ (a' := ?_) ?_ ?_
  rotate_left
  · show Act.put _ (some 23) _ = _
    simp only [Act.put, List.setIfInBounds_toArray, List.set_cons_zero, List.set_cons_succ]
    rfl
  refine one_ (i := 17) (N := some 25) #[true, true, true, true, true, true, true, true, true, true, true, true, true, true, true, true, true, true, true, false, false, false, false] rfl rfl (by kernel_rfl) (by decide) (fun K hK => ?_)
  refine goes_ Try.func31 (by kernel_rfl) rfl #[.int .u64 e] (by rfl) rfl rfl (by (try simp only [List.map_toArray, List.map_cons, List.map_nil]); first | done | rfl) ?_
  refine (laws_wideSmall.calls e _ _ HE).mono ?_
  rintro e W2 ⟨v, rfl, hv, hb⟩
  refine ⟨_, rfl, ?_⟩
  have VW := Lib.hid hv
  clear hv
  obtain ⟨AVW, cVW, rfl⟩ := Kd.V_slice (id VW)
  replace VU := Lib.hid (Kd.V_below (id VU) hb)
  replace k1 := blk_on k1 hb
  replace k2 := blk_on k2 hb
  replace BB := on_ BB BB.size hb
  clear hb
  refine hK.out _ _ ⟨(blk_cell k1 0).trans rfl, (blk_cell k1 1).trans rfl, (blk_cell k2 0).trans rfl, (blk_cell k2 1).trans rfl⟩ (fun hHeld => ?_)
  clear hK K
  refine norm_ (a' := ?_) ?_ ?_
  rotate_left
  · show Act.put _ (some 25) _ = _
    simp only [Act.put, List.setIfInBounds_toArray, List.set_cons_zero, List.set_cons_succ]
    rfl
  refine one_ (i := 19) (N := some 27) #[true, true, true, true, true, true, true, true, true, true, true, true, true, true, true, true, true, true, true, true, false, false, false] rfl rfl (by kernel_rfl) (by decide) (fun K hK => ?_)
  refine goes_ Try.func29 (by kernel_rfl) rfl #[.slice AVU (Dig.dg (N128 a b)).length cVU, .slice AVW (Dig.dg e.toNat).length cVW, .func (.func 35) #[] #[]] (by rfl) rfl rfl (by (try simp only [List.map_toArray, List.map_cons, List.map_nil]); first | done | rfl) ?_
  refine (wideBits_calls (N128 a b) e.toNat (fun u v => u != v) 35 AVU AVW cVU cVW _ (fun _ _ => rfl) Xor_1 (Kd.V_reads' (id VU)).2.1 (fun W hW => (Kd.V_reads' (Kd.V_below (id VU) hW)).2.2) (Kd.V_reads' (id VW)).2.1 (fun W hW => (Kd.V_reads' (Kd.V_below (id VW) hW)).2.2)).mono ?_
  rintro e W2 ⟨v, rfl, hv, hb⟩
  refine ⟨_, rfl, ?_⟩
  have VC := Lib.hid hv
  clear hv
  obtain ⟨AVC, cVC, rfl⟩ := Kd.V_slice (id VC)
  replace VU := Lib.hid (Kd.V_below (id VU) hb)
  replace VW := Lib.hid (Kd.V_below (id VW) hb)
  replace k1 := blk_on k1 hb
  replace k2 := blk_on k2 hb
  replace BB := on_ BB BB.size hb
  clear hb
  refine hK.out _ _ ⟨(blk_cell k1 0).trans rfl, (blk_cell k1 1).trans rfl, (blk_cell k2 0).trans rfl, (blk_cell k2 1).trans rfl⟩ (fun hHeld => ?_)
  clear hK K
  refine norm_ (a' := ?_) ?_ ?_
  rotate_left
  · show Act.put _ (some 27) _ = _
    simp only [Act.put, List.setIfInBounds_toArray, List.set_cons_zero, List.set_cons_succ]
    rfl
  refine one_ (i := 20) (N := some 28) #[true, true, true, true, true, true, true, true, true, true, true, true, true, true, true, true, true, true, true, true, true, false, false] rfl rfl (by kernel_rfl) (by decide) (fun K hK => ?_)
  refine goes_ Try.func27 (by kernel_rfl) rfl #[.agg #[.int .u64 r3, .int .u64 r4], .slice AVC (Dig.dg (Dig.ofb (fun i => (fun u v => u != v) ((N128 a b).testBit i) (e.toNat.testBit i)) 128)).length cVC] (by rfl) rfl rfl (by (try simp only [List.map_toArray, List.map_cons, List.map_nil]); first | done | rfl) ?_
  refine (laws_wideIs.calls 100 r3 r4 AVC cVC _ true _ (Kd.V_reads' (id VC)).2.2 (Kd.V_reads' (id VC)).2.1 HS2).mono ?_
  rintro e W2 ⟨rfl, hb⟩
  refine ⟨_, rfl, ?_⟩
  replace VC := Lib.hid (Kd.V_below (id VC) hb)
  replace k1 := blk_on k1 hb
  replace k2 := blk_on k2 hb
  replace BB := on_ BB BB.size hb
  clear hb
  refine hK.out _ _ ⟨(blk_cell k1 0).trans rfl, (blk_cell k1 1).trans rfl, (blk_cell k2 0).trans rfl, (blk_cell k2 1).trans rfl⟩ (fun hHeld => ?_)
  clear hK K
  refine norm_ (a' := ?_) ?_ ?_
  rotate_left
  · show Act.put _ (some 28) _ = _
    simp only [Act.put, List.setIfInBounds_toArray, List.set_cons_zero, List.set_cons_succ]
    rfl
  refine pure_ (i := 21) (N := some 29) (v := ?_) (a' := ?_) #[true, true, true, true, true, true, true, true, true, true, true, true, true, true, true, true, true, true, true, true, true, true, false] rfl rfl (by kernel_rfl) (fun _ _ _ h => h) (Or.inl ⟨by rfl, ?_⟩) ?_ ?_
  rotate_left
  · intro w'
    go_simp
    with_reducible rfl
  rotate_left
  · simp only [Act.put, List.setIfInBounds_toArray, List.set_cons_zero, List.set_cons_succ]
    rfl
  refine pure_ (i := 22) (N := some 6) (v := ?_) (a' := ?_) #[true, true, true, true, true, true, true, true, true, true, true, true, true, true, true, true, true, true, true, true, true, true, true] rfl rfl (by kernel_rfl) (fun _ _ _ h => h) (Or.inl ⟨by rfl, ?_⟩) ?_ ?_
  rotate_left
  · intro w'
    go_simp
    with_reducible rfl
  rotate_left
  · simp only [Act.put, List.setIfInBounds_toArray, List.set_cons_zero, List.set_cons_succ]
    rfl
  refine done_ (by kernel_rfl) ?_
  go_wp2
  go_ret
  exact ⟨rfl, BB⟩
theorem xor_bits (x y u v : Nat) (hx : x < 18446744073709551616) (hy : y < 18446744073709551616) (hu : u < 18446744073709551616) (hv : v < 18446744073709551616) :
    laws_wideIs.f 100 ((x ^^^ u : Nat) : Int) ((y ^^^ v : Nat) : Int) (Dig.dg (Dig.ofb (fun i => (fun u v => u != v) ((N128 (x : Int) (y : Int)).testBit i) ((N128 (u : Int) (v : Int)).testBit i)) 128)) = some true := by
  refine is_bits _ _ _ (xor_lt hx hu) (xor_lt hy hv) (fun i hi => ?_) (fun i hi => ?_)
  · rw [Nat.testBit_xor, bit_whole _ _ _ hx, bit_whole _ _ _ hu, if_pos hi, if_pos hi]
  · rw [Nat.testBit_xor, bit_whole _ _ _ hx, bit_whole _ _ _ hu, if_neg (by omega), if_neg (by omega), Nat.add_sub_cancel]
theorem xor_walk (a b c d e : Int) (ha : 0 ≤ a ∧ a ≤ 18446744073709551615) (hb : 0 ≤ b ∧ b ≤ 18446744073709551615) (hc : 0 ≤ c ∧ c ≤ 18446744073709551615) (hd : 0 ≤ d ∧ d ≤ 18446744073709551615) (he : 0 ≤ e ∧ e ≤ 18446744073709551615) (w : World) :
    Calls Try.prog 6 #[.agg #[.int .u64 a, .int .u64 b], .agg #[.int .u64 c, .int .u64 d], .int .u64 e] w fun e w' => e = .returned (.bool true) ∧ Below w.heap.size w w' := by
  obtain ⟨x, rfl, hx⟩ := (U64.of ha).nat
  obtain ⟨y, rfl, hy⟩ := (U64.of hb).nat
  obtain ⟨u, rfl, hu⟩ := (U64.of hc).nat
  obtain ⟨v, rfl, hv⟩ := (U64.of hd).nat
  obtain ⟨z, rfl, hz⟩ := (U64.of he).nat
  have g1 := xor_bits x y u v hx hy hu hv
  have g2 := xor_bits x y z 0 hx hy hz (by decide)
  have ez : N128 (z : Int) ((0 : Nat) : Int) = (z : Int).toNat := by unfold N128; simp
  rw [ez] at g2
  refine xor_call _ _ _ _ _ (U64.of ha) (U64.of hb) (U64.of hc) (U64.of hd) (U64.of he) _ _ _ _ w ?_ ?_ g1 g2
  · unfold impl_WideXor.f
    rw [bnd (show impl_Wide_u.f (x : Int) (y : Int) = some ((x : Int), (y : Int)) from rfl), bnd (show impl_Wide_u.f (u : Int) (v : Int) = some ((u : Int), (v : Int)) from rfl)]
    unfold uint128_Uint128_Xor.f
    rw [xor_nat _ _ hx hu, xor_nat _ _ hy hv]
    rfl
  · unfold impl_WideXor64.f
    rw [bnd (show impl_Wide_u.f (x : Int) (y : Int) = some ((x : Int), (y : Int)) from rfl)]
    unfold uint128_Uint128_Xor64.f
    have e0 := xor_nat y 0 hy (by decide)
    rw [show ((0 : Nat) : Int) = 0 from rfl] at e0
    rw [xor_nat _ _ hx hz, e0]
    rfl
end Go.Proofs.Ytiifnofghicnaaa.PAll
