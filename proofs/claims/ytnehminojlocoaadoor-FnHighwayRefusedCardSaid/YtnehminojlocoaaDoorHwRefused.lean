/- FnHighwayRefused: the law's function answers true. Printed by gen/hwlaw.py. -/
import Derived.Test.YtnehminojlocoaaDoorHwRun
namespace Go.Proofs.YtnehminojlocoaaDoor.PAll
open Go.RowKit Go.Proofs.YtnehminojlocoaaDoorW.PrintWords Go.Proofs.YtnehminojlocoaaDoorW.PrintLast Go.Proofs.YtnehminojlocoaaDoorW.PrintMore
set_option linter.unusedVariables false
set_option linter.unusedSimpArgs false
theorem gKey : Tryd.prog.globalNamed "pub-hashloom/pub/highwayhash.errKeySize" = some 0 := by kernel_rfl
theorem tKey : (Tryd.prog.globals[0]?).map (·.type) = some 48 := by kernel_rfl
theorem star : ("*" : String) ++ "errors.errorString" = "*errors.errorString" := by decide
theorem row_err (u : TypeId) (h : Tryd.prog.typeName? 3 u = some "*errors.errorString") : u = 109 :=
  typeName_ptr_named (nm := "errors.errorString") (by rw [star]; kernel_rfl) (by kernel_rfl) (by decide) u (by rw [star]; exact h)
theorem globK_of {W : World} (h : laidMetH Tryd.prog Rows.fnHighwayRefusedRow.laid W) : GlobK W := by
  rw [MakeChecks.laidMetH_plain _ _ _ (by kernel_rfl)] at h
  obtain ⟨ps, ⟨g0, t0, cs0, f0, p0, q0, hg0, ht0, hv0, hd0, _, _⟩, _, _⟩ := h
  obtain rfl := Option.some.inj (gKey.symm.trans hg0)
  obtain rfl := Option.some.inj (tKey.symm.trans ht0)
  obtain ⟨f, u, v, hc, hn, _⟩ := iface_of_trod Tryd.underlying48 hd0
  obtain rfl := row_err u hn
  obtain ⟨l⟩ := cs0
  obtain rfl : l = [.iface 109 v] := hc
  exact ⟨v, by simpa using World.var?_cell hg0 hv0 0⟩
/-- 32 cells of noughts. -/
def Z32 (g : Nat) (W : World) : Prop := ∀ i, i < 32 → W.cell? ⟨g, i, none⟩ = some (.int .u8 0)
theorem Z32.on {g : Nat} {W W' : World} (h : Z32 g W) (hb : Below W.heap.size W W') : Z32 g W' := fun i hi => (hb.cell (World.block_lt_of_cell? W _ (h i hi))).trans (h i hi)
theorem z32_alloc (W : World) (T : TypeId) : Z32 W.heap.size (W.alloc (.cells (Array.replicate 32 (.int .u8 0)) T)) := fun i hi => by
  rw [World.cell?_alloc_at _ _ _ _ rfl, Array.getElem?_replicate, if_pos hi]
theorem z32_C {g : Nat} {W : World} (h : Z32 g W) : Kd.C (Kd.int .u8) W (some ⟨g, 0, none⟩) (List.replicate 32 (0 : Int)).length (List.replicate 32 0) := by
  refine ⟨rfl, show 32 * 1 ≤ 9223372036854775807 by decide, fun _ => ⟨_, rfl, fun j p hj => ?_⟩⟩
  rw [List.getElem?_replicate] at hj
  split at hj
  · obtain rfl := Option.some.inj hj
    refine ⟨[.int .u8 0], rfl, rfl, fun i u hu => ?_⟩
    match i, hu with
    | 0, hu =>
      obtain rfl : Value.int .u8 0 = u := by simpa using hu
      rw [show (Addr.add ⟨g, 0, none⟩ (j * (Kd.int .u8).sz + 0)) = ⟨g, j, none⟩ by
        rw [show j * (Kd.int .u8).sz + 0 = j by show j * 1 + 0 = j; omega]
        simp [Addr.add]
        omega]
      exact h j (by assumption)
  · exact absurd hj (by simp)
theorem make32 : ∀ W : World, (Instr.makeSlice 22 (.int .i64 32) (.int .i64 32)).run Tryd.prog W = .ok (.slice (some ⟨W.heap.size, 0, none⟩) 32 32) (W.alloc (.cells (Array.replicate 32 (.int .u8 0)) 5)) := fun W => by
  have h := print_make (P := Tryd.prog) 22 5 .u8 1 Tryd.underlying22 (by kernel_rfl) (by decide) 32 (by decide) W
  rw [show madeCells #[.int .u8 0] 32 = Array.replicate 32 (.int .u8 0) by rw [← Array.toList_inj, toList_madeCells_one, Array.toList_replicate]] at h
  exact h
theorem run_no_all (sz : Int) (hs : sz = 8 ∨ sz = 16 ∨ sz = 32) (d : Bool) (A : Option Addr) (c : Nat) (l : List Int) (w : World) (hC : ∀ W, Below w.heap.size w W → Kd.C (Kd.int .u8) W A l.length l) (hl : l.length ≤ c) (h1 : l.length ≤ 100) (hn : l.length ≠ 32) (hg : GlobK w) :
    Calls Tryd.prog 7 #[.int .i64 sz, .slice A l.length c, .bool d, .slice none 0 0] w fun e w' => (∃ v0 v1, ∃ x y : Int, e = .returned (.tuple #[v0, v1, .agg #[.int .i64 x, .int .i64 y], .bool false])) ∧ Below w.heap.size w w' := by
  rcases hs with rfl | rfl | rfl <;> cases d
  · exact run_no _ _ _ _ _ _ (Lib.hid fun W hW => high8f_no A c l W (hC W hW) hl h1 hn (hg.on hW))
  · exact run_no _ _ _ _ _ _ (Lib.hid fun W hW => high8t_no A c l W (hC W hW) hl h1 hn (hg.on hW))
  · exact run_no _ _ _ _ _ _ (Lib.hid fun W hW => high16f_no A c l W (hC W hW) hl h1 hn (hg.on hW))
  · exact run_no _ _ _ _ _ _ (Lib.hid fun W hW => high16t_no A c l W (hC W hW) hl h1 hn (hg.on hW))
  · exact run_no _ _ _ _ _ _ (Lib.hid fun W hW => high32f_no A c l W (hC W hW) hl h1 hn (hg.on hW))
  · exact run_no _ _ _ _ _ _ (Lib.hid fun W hW => high32t_no A c l W (hC W hW) hl h1 hn (hg.on hW))
theorem run_yes_all (sz : Int) (hs : sz = 8 ∨ sz = 16 ∨ sz = 32) (d : Bool) (g c : Nat) (hc : 32 ≤ c) (w : World) (hz : Z32 g w) :
    Calls Tryd.prog 7 #[.int .i64 sz, .slice (some ⟨g, 0, none⟩) 32 c, .bool d, .slice none 0 0] w fun e w' => (∃ v0 v1, ∃ x y : Int, e = .returned (.tuple #[v0, v1, .agg #[.int .i64 x, .int .i64 y], .bool true])) ∧ Below w.heap.size w w' := by
  rcases hs with rfl | rfl | rfl <;> cases d
  · exact run_yes_d64 _ _ _ _ _ _ (Lib.hid fun W hW => high8f_yes _ c (List.replicate 32 0) W (z32_C (hz.on hW)) hc rfl)
  · exact run_yes_d64 _ _ _ _ _ _ (Lib.hid fun W hW => high8t_yes _ c (List.replicate 32 0) W (z32_C (hz.on hW)) hc rfl)
  · exact run_yes_dd _ _ _ _ _ _ (Lib.hid fun W hW => high16f_yes _ c (List.replicate 32 0) W (z32_C (hz.on hW)) hc rfl)
  · exact run_yes_dd _ _ _ _ _ _ (Lib.hid fun W hW => high16t_yes _ c (List.replicate 32 0) W (z32_C (hz.on hW)) hc rfl)
  · exact run_yes_dd _ _ _ _ _ _ (Lib.hid fun W hW => high32f_yes _ c (List.replicate 32 0) W (z32_C (hz.on hW)) hc rfl)
  · exact run_yes_dd _ _ _ _ _ _ (Lib.hid fun W hW => high32t_yes _ c (List.replicate 32 0) W (z32_C (hz.on hW)) hc rfl)
theorem size_ok (x : Int) (hx : 0 ≤ x ∧ x ≤ 255) : ∃ sz, laws_hashSize.f x = some sz ∧ (sz = 8 ∨ sz = 16 ∨ sz = 32) := by
  unfold laws_hashSize.f
  rw [Int.tmod_eq_emod_of_nonneg hx.1]
  obtain h | h | h : x % 3 = 0 ∨ x % 3 = 1 ∨ x % 3 = 2 := by omega
  · exact ⟨8, by rw [h]; rfl, Or.inl rfl⟩
  · exact ⟨16, by rw [h]; rfl, Or.inr (Or.inl rfl)⟩
  · exact ⟨32, by rw [h]; rfl, Or.inr (Or.inr rfl)⟩
set_option maxHeartbeats 4000000 in
set_option maxRecDepth 100000 in
theorem refused_walk (a : Int) (A : Option Addr) (c : Nat) (l : List Int) (d : Bool) (ha : 0 ≤ a ∧ a ≤ 255) (w : World) (hC : Kd.C (Kd.int .u8) w A l.length l) (hl : l.length ≤ c) (h1 : l.length ≤ 100) (hn : l.length ≠ 32) (hg : GlobK w) :
    Calls Tryd.prog 3 #[.int .u8 a, .slice A l.length c, .bool d] w fun e w' => e = .returned (.bool true) ∧ Below w.heap.size w w' := by
  obtain ⟨sz, hsz, hs⟩ := size_ok a ha
  have b1 : decide ((l.length : Int) > 2147483647) = false := decide_eq_false (by omega)
  have b2 : ((l.length : Int) == 32) = false := by rw [beq_eq_false_iff_ne]; omega
  have b3 : decide ((l.length : Int) > 100) = false := decide_eq_false (by omega)
  have HS := Lib.hid hsz
  have HH := Lib.hid (And.intro hs (And.intro hC (And.intro hl (And.intro h1 (And.intro hn hg)))))
  clear hsz hs hC hl h1 hn hg
  go_enter Tryd.func3, Tryd.ntmps3
  go_wp2_with fail
  refine (laws_hashSize.calls a sz _ HS.out).mono ?_
  rintro e w1 ⟨rfl, hd⟩
  have HB := Lib.hid hd.below
  clear hd
  go_wp2_with fail
  obtain ⟨hs, hC, hl, h1, hn, hg⟩ := id HH
  refine (run_no_all sz hs d A c l w1 (fun W hW => Kd.C_below hC (HB.out.trans (hW.mono HB.out.size))) hl h1 hn (hg.on HB.out)).mono ?_
  rintro e w2 ⟨⟨q0, q1, qx, qy, rfl⟩, hb2⟩
  have HB2 := Lib.hid (HB.out.trans (hb2.mono HB.out.size))
  clear hb2 HB hC hl h1 hn hg HH
  clear b1 b2 b3
  have HS2 := Lib.hid hs
  clear hs
  go_wp2_with fail
  have hsz := HS.out
  have hs := HS2.out
  have hmk := make32
  have BW := HB2.out.alloc HB2.out.size (.cells #[.int .i64 qx, .int .i64 qy] 24)
  clear HS HS2 HB2
  generalize w2.alloc (.cells #[.int .i64 qx, .int .i64 qy] 24) = W00 at BW ⊢
  refine start_ (n := 15) (S := fun w' => True) (ds := []) #[false, false, false, false, false, false, false, false, false, false, false, false, false, false, false] (by kernel_rfl) rfl rfl trivial (fun hHeld => ?_)
  replace BW : Below w.heap.size w W00.drew := BW.drew
  generalize W00.drew = W0 at BW ⊢
  have B0 := BW
  clear BW
  have BW := Below.refl W0.heap.size W0
  refine pure_ (i := 0) (N := some 37) (v := ?_) (a' := ?_) #[true, false, false, false, false, false, false, false, false, false, false, false, false, false, false] rfl rfl (by kernel_rfl) (fun _ _ _ h => h) (Or.inl ⟨by rfl, ?_⟩) ?_ ?_
  rotate_left
  · intro w'
    go_simp
    with_reducible rfl
  rotate_left
  · simp only [Act.put, List.setIfInBounds_toArray, List.set_cons_zero, List.set_cons_succ, i64_w, i32_w]
    rfl
  refine pure_ (i := 3) (N := some 40) (v := ?_) (a' := ?_) #[true, false, false, true, false, false, false, false, false, false, false, false, false, false, false] rfl rfl (by kernel_rfl) (fun _ _ _ h => h) (Or.inl ⟨by rfl, ?_⟩) ?_ ?_
  rotate_left
  · intro w'
    go_simp
    with_reducible rfl
  rotate_left
  · simp only [Act.put, List.setIfInBounds_toArray, List.set_cons_zero, List.set_cons_succ, i64_w, i32_w]
    rfl
  refine join_ (σ := Nat × Nat × Value × Value × Int × Int) 4 #[true, true, true, true, true, true, true, true, true, true, true, false, false, false, false] (fun s => [(38, .int .i64 sz), (39, .slice (some ⟨s.1, 0, none⟩) 32 32), (41, .tuple #[s.2.2.1, s.2.2.2.1, .agg #[.int .i64 s.2.2.2.2.1, .int .i64 s.2.2.2.2.2], .bool true]), (36, .tuple #[s.2.2.1, s.2.2.2.1, .agg #[.int .i64 s.2.2.2.2.1, .int .i64 s.2.2.2.2.2], .bool true]), (42, s.2.2.1), (43, s.2.2.2.1), (44, .agg #[.int .i64 s.2.2.2.2.1, .int .i64 s.2.2.2.2.2]), (45, .bool true), (13, .pointer (some ⟨s.2.1, 0, none⟩))]) (fun s w' => Below W0.heap.size W0 w' ∧ Z32 s.1 w' ∧ W0.heap.size ≤ s.2.1 ∧ K2 s.2.1 w') ?_ ?_
  rotate_left
  · intro hJ1_2_4_10
    refine join_ (σ := Nat × Nat × Value × Value × Int × Int) 5 #[true, true, true, true, true, true, true, true, true, true, false, false, false, false, false] (fun s => [(38, .int .i64 sz), (39, .slice (some ⟨s.1, 0, none⟩) 32 32), (41, .tuple #[s.2.2.1, s.2.2.2.1, .agg #[.int .i64 s.2.2.2.2.1, .int .i64 s.2.2.2.2.2], .bool true]), (36, .tuple #[s.2.2.1, s.2.2.2.1, .agg #[.int .i64 s.2.2.2.2.1, .int .i64 s.2.2.2.2.2], .bool true]), (42, s.2.2.1), (43, s.2.2.2.1), (44, .agg #[.int .i64 s.2.2.2.2.1, .int .i64 s.2.2.2.2.2]), (45, .bool true)]) (fun s w' => Below W0.heap.size W0 w' ∧ Z32 s.1 w') ?_ ?_
    rotate_left
    · intro hJ1_2_4
      refine join_ (σ := Nat × Nat × Value × Value × Int × Int) 10 #[true, true, true, true, false, false, false, false, false, false, true, false, false, false, false] (fun s => [(38, .int .i64 sz), (39, .slice (some ⟨s.1, 0, none⟩) 32 32), (13, .pointer (some ⟨s.2.1, 0, none⟩))]) (fun s w' => Below W0.heap.size W0 w' ∧ Z32 s.1 w' ∧ W0.heap.size ≤ s.2.1 ∧ K2 s.2.1 w') ?_ ?_
      rotate_left
      · intro hJ1_2_10
        refine join_ (σ := Nat × Nat × Value × Value × Int × Int) 11 #[true, true, true, true, false, false, false, false, false, false, false, false, false, false, false] (fun s => [(38, .int .i64 sz), (39, .slice (some ⟨s.1, 0, none⟩) 32 32)]) (fun s w' => Below W0.heap.size W0 w' ∧ Z32 s.1 w') ?_ ?_
        rotate_left
        · intro hJ1_2
          refine join_ (σ := Nat × Nat × Value × Value × Int × Int) 11 #[true, true, false, true, false, false, false, false, false, false, true, false, false, false, false] (fun s => [(38, .int .i64 sz), (13, .pointer (some ⟨s.2.1, 0, none⟩))]) (fun s w' => Below W0.heap.size W0 w' ∧ W0.heap.size ≤ s.2.1 ∧ K2 s.2.1 w') ?_ ?_
          rotate_left
          · intro hJ1_10
            refine join_ (σ := Nat × Nat × Value × Value × Int × Int) 11 #[true, false, true, true, false, false, false, false, false, false, true, false, false, false, false] (fun s => [(39, .slice (some ⟨s.1, 0, none⟩) 32 32), (13, .pointer (some ⟨s.2.1, 0, none⟩))]) (fun s w' => Below W0.heap.size W0 w' ∧ Z32 s.1 w' ∧ W0.heap.size ≤ s.2.1 ∧ K2 s.2.1 w') ?_ ?_
            rotate_left
            · intro hJ2_10
              refine join_ (σ := Nat × Nat × Value × Value × Int × Int) 12 #[true, true, false, true, false, false, false, false, false, false, false, false, false, false, false] (fun s => [(38, .int .i64 sz)]) (fun s w' => Below W0.heap.size W0 w') ?_ ?_
              rotate_left
              · intro hJ1
                refine join_ (σ := Nat × Nat × Value × Value × Int × Int) 12 #[true, false, true, true, false, false, false, false, false, false, false, false, false, false, false] (fun s => [(39, .slice (some ⟨s.1, 0, none⟩) 32 32)]) (fun s w' => Below W0.heap.size W0 w' ∧ Z32 s.1 w') ?_ ?_
                rotate_left
                · intro hJ2
                  refine join_ (σ := Nat × Nat × Value × Value × Int × Int) 12 #[true, false, false, true, false, false, false, false, false, false, true, false, false, false, false] (fun s => [(13, .pointer (some ⟨s.2.1, 0, none⟩))]) (fun s w' => Below W0.heap.size W0 w' ∧ W0.heap.size ≤ s.2.1 ∧ K2 s.2.1 w') ?_ ?_
                  rotate_left
                  · intro hJ10
                    refine three_ (i := 1) (j := 2) (k := 10) (Ni := some 38) (Nj := some 39) (Nk := some 13) #[true, true, false, true, false, false, false, false, false, false, false, false, false, false, false] #[true, false, true, true, false, false, false, false, false, false, false, false, false, false, false] #[true, false, false, true, false, false, false, false, false, false, true, false, false, false, false] rfl rfl rfl rfl rfl rfl (by kernel_rfl) (by decide) (by decide) (by decide) (fun K hK => ?_) (fun K hK => ?_) (fun K hK => ?_)
                    · skip
                      refine goes_ Tryd.func8 (by kernel_rfl) rfl #[.int .u8 a] (by rfl) rfl rfl (by (try simp only [List.map_toArray, List.map_cons, List.map_nil]); first | done | rfl) ?_
                      refine (laws_hashSize.calls a sz _ hsz).mono ?_
                      rintro e W9 ⟨rfl, hd⟩
                      have hb := hd.below
                      clear hd
                      refine ⟨_, rfl, ?_⟩
                      replace BW := BW.trans (hb.mono BW.size)
                      clear hb
                      refine hK.out _ _ trivial (fun hHeld => ?_)
                      clear hK K
                      refine norm_ (a' := ?_) ?_ ?_
                      rotate_left
                      · show Act.put _ (some 38) _ = _
                        simp only [Act.put, List.setIfInBounds_toArray, List.set_cons_zero, List.set_cons_succ, i64_w, i32_w]
                        rfl
                      exact norm_ (by first | (simp only [putAll, Act.put, List.setIfInBounds_toArray, List.set_cons_zero, List.set_cons_succ]; done) | (simp only [putAll, Act.put, List.setIfInBounds_toArray, List.set_cons_zero, List.set_cons_succ]; rfl)) (hJ1 ⟨0, 0, .bool false, .bool false, 0, 0⟩ _ BW)
                    · skip
                      refine value_ (w1 := ?_) (v := ?_) (by rfl) rfl ?_ ?_
                      rotate_left 2
                      · go_simp
                        constructor
                        · rfl
                        · rfl
                      refine hK.out _ _ trivial (fun hHeld => ?_)
                      clear hK K
                      refine norm_ (a' := ?_) ?_ ?_
                      rotate_left
                      · show Act.put _ (some 39) _ = _
                        simp only [Act.put, List.setIfInBounds_toArray, List.set_cons_zero, List.set_cons_succ, i64_w, i32_w]
                        rfl
                      exact norm_ (by first | (simp only [putAll, Act.put, List.setIfInBounds_toArray, List.set_cons_zero, List.set_cons_succ]; done) | (simp only [putAll, Act.put, List.setIfInBounds_toArray, List.set_cons_zero, List.set_cons_succ]; rfl)) (hJ2 ⟨_, 0, .bool false, .bool false, 0, 0⟩ _ ⟨(BW.trans (((Below.refl _ _).alloc (Nat.le_refl _) _).mono BW.size)), (z32_alloc _ _)⟩)
                    · skip
                      refine value_ (w1 := ?_) (v := ?_) (by rfl) rfl ?_ ?_
                      rotate_left 2
                      · go_simp
                        constructor
                        · rfl
                        · rfl
                      refine hK.out _ _ trivial (fun hHeld => ?_)
                      clear hK K
                      refine norm_ (a' := ?_) ?_ ?_
                      rotate_left
                      · show Act.put _ (some 13) _ = _
                        simp only [Act.put, List.setIfInBounds_toArray, List.set_cons_zero, List.set_cons_succ, i64_w, i32_w]
                        rfl
                      exact norm_ (by first | (simp only [putAll, Act.put, List.setIfInBounds_toArray, List.set_cons_zero, List.set_cons_succ]; done) | (simp only [putAll, Act.put, List.setIfInBounds_toArray, List.set_cons_zero, List.set_cons_succ]; rfl)) (hJ10 ⟨0, _, .bool false, .bool false, 0, 0⟩ _ ⟨(BW.trans (((Below.refl _ _).alloc (Nat.le_refl _) _).mono BW.size)), BW.size, ⟨0, 0, (MapKept.heap_alloc _ _).1⟩⟩)
                  · skip
                    rintro ⟨g2, g10, v0, v1, x, y⟩ W ⟨BW, l10, h10⟩
                    replace BW : Below W0.heap.size W0 W := BW
                    replace h10 : K2 g10 W := h10
                    replace l10 : W0.heap.size ≤ g10 := l10
                    have hHeld : True := trivial
                    refine norm_ (a' := ?_) ?_ ?_
                    rotate_left
                    · simp only [putAll, Act.put, List.setIfInBounds_toArray, List.set_cons_zero, List.set_cons_succ]
                      rfl
                    refine two_ (i := 1) (j := 2) (Ni := some 38) (Nj := some 39) #[true, true, false, true, false, false, false, false, false, false, true, false, false, false, false] #[true, false, true, true, false, false, false, false, false, false, true, false, false, false, false] rfl rfl rfl rfl (by kernel_rfl) (by decide) (by decide) (fun K hK => ?_) (fun K hK => ?_)
                    · skip
                      refine goes_ Tryd.func8 (by kernel_rfl) rfl #[.int .u8 a] (by rfl) rfl rfl (by (try simp only [List.map_toArray, List.map_cons, List.map_nil]); first | done | rfl) ?_
                      refine (laws_hashSize.calls a sz _ hsz).mono ?_
                      rintro e W9 ⟨rfl, hd⟩
                      have hb := hd.below
                      clear hd
                      refine ⟨_, rfl, ?_⟩
                      replace BW := BW.trans (hb.mono BW.size)
                      replace h10 := h10.on hb
                      clear hb
                      refine hK.out _ _ trivial (fun hHeld => ?_)
                      clear hK K
                      refine norm_ (a' := ?_) ?_ ?_
                      rotate_left
                      · show Act.put _ (some 38) _ = _
                        simp only [Act.put, List.setIfInBounds_toArray, List.set_cons_zero, List.set_cons_succ, i64_w, i32_w]
                        rfl
                      exact norm_ (by first | (simp only [putAll, Act.put, List.setIfInBounds_toArray, List.set_cons_zero, List.set_cons_succ]; done) | (simp only [putAll, Act.put, List.setIfInBounds_toArray, List.set_cons_zero, List.set_cons_succ]; rfl)) (hJ1_10 ⟨0, g10, .bool false, .bool false, 0, 0⟩ _ ⟨BW, l10, h10⟩)
                    · skip
                      refine value_ (w1 := ?_) (v := ?_) (by rfl) rfl ?_ ?_
                      rotate_left 2
                      · go_simp
                        constructor
                        · rfl
                        · rfl
                      refine hK.out _ _ trivial (fun hHeld => ?_)
                      clear hK K
                      refine norm_ (a' := ?_) ?_ ?_
                      rotate_left
                      · show Act.put _ (some 39) _ = _
                        simp only [Act.put, List.setIfInBounds_toArray, List.set_cons_zero, List.set_cons_succ, i64_w, i32_w]
                        rfl
                      exact norm_ (by first | (simp only [putAll, Act.put, List.setIfInBounds_toArray, List.set_cons_zero, List.set_cons_succ]; done) | (simp only [putAll, Act.put, List.setIfInBounds_toArray, List.set_cons_zero, List.set_cons_succ]; rfl)) (hJ2_10 ⟨_, g10, .bool false, .bool false, 0, 0⟩ _ ⟨(BW.trans (((Below.refl _ _).alloc (Nat.le_refl _) _).mono BW.size)), (z32_alloc _ _), l10, (h10.on ((Below.refl _ _).alloc (Nat.le_refl _) _))⟩)
                · skip
                  rintro ⟨g2, g10, v0, v1, x, y⟩ W ⟨BW, h2⟩
                  replace BW : Below W0.heap.size W0 W := BW
                  replace h2 : Z32 g2 W := h2
                  have hHeld : True := trivial
                  refine norm_ (a' := ?_) ?_ ?_
                  rotate_left
                  · simp only [putAll, Act.put, List.setIfInBounds_toArray, List.set_cons_zero, List.set_cons_succ]
                    rfl
                  refine two_ (i := 1) (j := 10) (Ni := some 38) (Nj := some 13) #[true, true, true, true, false, false, false, false, false, false, false, false, false, false, false] #[true, false, true, true, false, false, false, false, false, false, true, false, false, false, false] rfl rfl rfl rfl (by kernel_rfl) (by decide) (by decide) (fun K hK => ?_) (fun K hK => ?_)
                  · skip
                    refine goes_ Tryd.func8 (by kernel_rfl) rfl #[.int .u8 a] (by rfl) rfl rfl (by (try simp only [List.map_toArray, List.map_cons, List.map_nil]); first | done | rfl) ?_
                    refine (laws_hashSize.calls a sz _ hsz).mono ?_
                    rintro e W9 ⟨rfl, hd⟩
                    have hb := hd.below
                    clear hd
                    refine ⟨_, rfl, ?_⟩
                    replace BW := BW.trans (hb.mono BW.size)
                    replace h2 := h2.on hb
                    clear hb
                    refine hK.out _ _ trivial (fun hHeld => ?_)
                    clear hK K
                    refine norm_ (a' := ?_) ?_ ?_
                    rotate_left
                    · show Act.put _ (some 38) _ = _
                      simp only [Act.put, List.setIfInBounds_toArray, List.set_cons_zero, List.set_cons_succ, i64_w, i32_w]
                      rfl
                    exact norm_ (by first | (simp only [putAll, Act.put, List.setIfInBounds_toArray, List.set_cons_zero, List.set_cons_succ]; done) | (simp only [putAll, Act.put, List.setIfInBounds_toArray, List.set_cons_zero, List.set_cons_succ]; rfl)) (hJ1_2 ⟨g2, 0, .bool false, .bool false, 0, 0⟩ _ ⟨BW, h2⟩)
                  · skip
                    refine value_ (w1 := ?_) (v := ?_) (by rfl) rfl ?_ ?_
                    rotate_left 2
                    · go_simp
                      constructor
                      · rfl
                      · rfl
                    refine hK.out _ _ trivial (fun hHeld => ?_)
                    clear hK K
                    refine norm_ (a' := ?_) ?_ ?_
                    rotate_left
                    · show Act.put _ (some 13) _ = _
                      simp only [Act.put, List.setIfInBounds_toArray, List.set_cons_zero, List.set_cons_succ, i64_w, i32_w]
                      rfl
                    exact norm_ (by first | (simp only [putAll, Act.put, List.setIfInBounds_toArray, List.set_cons_zero, List.set_cons_succ]; done) | (simp only [putAll, Act.put, List.setIfInBounds_toArray, List.set_cons_zero, List.set_cons_succ]; rfl)) (hJ2_10 ⟨g2, _, .bool false, .bool false, 0, 0⟩ _ ⟨(BW.trans (((Below.refl _ _).alloc (Nat.le_refl _) _).mono BW.size)), (h2.on ((Below.refl _ _).alloc (Nat.le_refl _) _)), BW.size, ⟨0, 0, (MapKept.heap_alloc _ _).1⟩⟩)
              · skip
                rintro ⟨g2, g10, v0, v1, x, y⟩ W BW
                replace BW : Below W0.heap.size W0 W := BW
                have hHeld : True := trivial
                refine norm_ (a' := ?_) ?_ ?_
                rotate_left
                · simp only [putAll, Act.put, List.setIfInBounds_toArray, List.set_cons_zero, List.set_cons_succ]
                  rfl
                refine two_ (i := 2) (j := 10) (Ni := some 39) (Nj := some 13) #[true, true, true, true, false, false, false, false, false, false, false, false, false, false, false] #[true, true, false, true, false, false, false, false, false, false, true, false, false, false, false] rfl rfl rfl rfl (by kernel_rfl) (by decide) (by decide) (fun K hK => ?_) (fun K hK => ?_)
                · skip
                  refine value_ (w1 := ?_) (v := ?_) (by rfl) rfl ?_ ?_
                  rotate_left 2
                  · go_simp
                    constructor
                    · rfl
                    · rfl
                  refine hK.out _ _ trivial (fun hHeld => ?_)
                  clear hK K
                  refine norm_ (a' := ?_) ?_ ?_
                  rotate_left
                  · show Act.put _ (some 39) _ = _
                    simp only [Act.put, List.setIfInBounds_toArray, List.set_cons_zero, List.set_cons_succ, i64_w, i32_w]
                    rfl
                  exact norm_ (by first | (simp only [putAll, Act.put, List.setIfInBounds_toArray, List.set_cons_zero, List.set_cons_succ]; done) | (simp only [putAll, Act.put, List.setIfInBounds_toArray, List.set_cons_zero, List.set_cons_succ]; rfl)) (hJ1_2 ⟨_, 0, .bool false, .bool false, 0, 0⟩ _ ⟨(BW.trans (((Below.refl _ _).alloc (Nat.le_refl _) _).mono BW.size)), (z32_alloc _ _)⟩)
                · skip
                  refine value_ (w1 := ?_) (v := ?_) (by rfl) rfl ?_ ?_
                  rotate_left 2
                  · go_simp
                    constructor
                    · rfl
                    · rfl
                  refine hK.out _ _ trivial (fun hHeld => ?_)
                  clear hK K
                  refine norm_ (a' := ?_) ?_ ?_
                  rotate_left
                  · show Act.put _ (some 13) _ = _
                    simp only [Act.put, List.setIfInBounds_toArray, List.set_cons_zero, List.set_cons_succ, i64_w, i32_w]
                    rfl
                  exact norm_ (by first | (simp only [putAll, Act.put, List.setIfInBounds_toArray, List.set_cons_zero, List.set_cons_succ]; done) | (simp only [putAll, Act.put, List.setIfInBounds_toArray, List.set_cons_zero, List.set_cons_succ]; rfl)) (hJ1_10 ⟨0, _, .bool false, .bool false, 0, 0⟩ _ ⟨(BW.trans (((Below.refl _ _).alloc (Nat.le_refl _) _).mono BW.size)), BW.size, ⟨0, 0, (MapKept.heap_alloc _ _).1⟩⟩)
            · skip
              rintro ⟨g2, g10, v0, v1, x, y⟩ W ⟨BW, h2, l10, h10⟩
              replace BW : Below W0.heap.size W0 W := BW
              replace h2 : Z32 g2 W := h2
              replace h10 : K2 g10 W := h10
              replace l10 : W0.heap.size ≤ g10 := l10
              have hHeld : True := trivial
              refine norm_ (a' := ?_) ?_ ?_
              rotate_left
              · simp only [putAll, Act.put, List.setIfInBounds_toArray, List.set_cons_zero, List.set_cons_succ]
                rfl
              refine one_ (i := 1) (N := some 38) #[true, true, true, true, false, false, false, false, false, false, true, false, false, false, false] rfl rfl (by kernel_rfl) (by decide) (fun K hK => ?_)
              refine goes_ Tryd.func8 (by kernel_rfl) rfl #[.int .u8 a] (by rfl) rfl rfl (by (try simp only [List.map_toArray, List.map_cons, List.map_nil]); first | done | rfl) ?_
              refine (laws_hashSize.calls a sz _ hsz).mono ?_
              rintro e W9 ⟨rfl, hd⟩
              have hb := hd.below
              clear hd
              refine ⟨_, rfl, ?_⟩
              replace BW := BW.trans (hb.mono BW.size)
              replace h2 := h2.on hb
              replace h10 := h10.on hb
              clear hb
              refine hK.out _ _ trivial (fun hHeld => ?_)
              clear hK K
              refine norm_ (a' := ?_) ?_ ?_
              rotate_left
              · show Act.put _ (some 38) _ = _
                simp only [Act.put, List.setIfInBounds_toArray, List.set_cons_zero, List.set_cons_succ, i64_w, i32_w]
                rfl
              exact norm_ (by first | (simp only [putAll, Act.put, List.setIfInBounds_toArray, List.set_cons_zero, List.set_cons_succ]; done) | (simp only [putAll, Act.put, List.setIfInBounds_toArray, List.set_cons_zero, List.set_cons_succ]; rfl)) (hJ1_2_10 ⟨g2, g10, .bool false, .bool false, 0, 0⟩ _ ⟨BW, h2, l10, h10⟩)
          · skip
            rintro ⟨g2, g10, v0, v1, x, y⟩ W ⟨BW, l10, h10⟩
            replace BW : Below W0.heap.size W0 W := BW
            replace h10 : K2 g10 W := h10
            replace l10 : W0.heap.size ≤ g10 := l10
            have hHeld : True := trivial
            refine norm_ (a' := ?_) ?_ ?_
            rotate_left
            · simp only [putAll, Act.put, List.setIfInBounds_toArray, List.set_cons_zero, List.set_cons_succ]
              rfl
            refine one_ (i := 2) (N := some 39) #[true, true, true, true, false, false, false, false, false, false, true, false, false, false, false] rfl rfl (by kernel_rfl) (by decide) (fun K hK => ?_)
            refine value_ (w1 := ?_) (v := ?_) (by rfl) rfl ?_ ?_
            rotate_left 2
            · go_simp
              constructor
              · rfl
              · rfl
            refine hK.out _ _ trivial (fun hHeld => ?_)
            clear hK K
            refine norm_ (a' := ?_) ?_ ?_
            rotate_left
            · show Act.put _ (some 39) _ = _
              simp only [Act.put, List.setIfInBounds_toArray, List.set_cons_zero, List.set_cons_succ, i64_w, i32_w]
              rfl
            exact norm_ (by first | (simp only [putAll, Act.put, List.setIfInBounds_toArray, List.set_cons_zero, List.set_cons_succ]; done) | (simp only [putAll, Act.put, List.setIfInBounds_toArray, List.set_cons_zero, List.set_cons_succ]; rfl)) (hJ1_2_10 ⟨_, g10, .bool false, .bool false, 0, 0⟩ _ ⟨(BW.trans (((Below.refl _ _).alloc (Nat.le_refl _) _).mono BW.size)), (z32_alloc _ _), l10, (h10.on ((Below.refl _ _).alloc (Nat.le_refl _) _))⟩)
        · skip
          rintro ⟨g2, g10, v0, v1, x, y⟩ W ⟨BW, h2⟩
          replace BW : Below W0.heap.size W0 W := BW
          replace h2 : Z32 g2 W := h2
          have hHeld : True := trivial
          refine norm_ (a' := ?_) ?_ ?_
          rotate_left
          · simp only [putAll, Act.put, List.setIfInBounds_toArray, List.set_cons_zero, List.set_cons_succ]
            rfl
          refine two_ (i := 4) (j := 10) (Ni := some 41) (Nj := some 13) #[true, true, true, true, true, false, false, false, false, false, false, false, false, false, false] #[true, true, true, true, false, false, false, false, false, false, true, false, false, false, false] rfl rfl rfl rfl (by kernel_rfl) (by decide) (by decide) (fun K hK => ?_) (fun K hK => ?_)
          · skip
            refine goes_ Tryd.func7 (by kernel_rfl) rfl #[.int .i64 sz, .slice (some ⟨g2, 0, none⟩) 32 32, .bool d, .slice none 0 0] (by rfl) rfl rfl (by (try simp only [List.map_toArray, List.map_cons, List.map_nil]); first | done | rfl) ?_
            refine (run_yes_all sz hs d g2 32 (by decide) _ h2).mono ?_
            rintro e W9 ⟨⟨v0, v1, x, y, rfl⟩, hb⟩
            refine ⟨_, rfl, ?_⟩
            replace BW := BW.trans (hb.mono BW.size)
            replace h2 := h2.on hb
            clear hb
            refine hK.out _ _ trivial (fun hHeld => ?_)
            clear hK K
            refine norm_ (a' := ?_) ?_ ?_
            rotate_left
            · show Act.put _ (some 41) _ = _
              simp only [Act.put, List.setIfInBounds_toArray, List.set_cons_zero, List.set_cons_succ, i64_w, i32_w]
              rfl
            refine pure_ (i := 5) (N := some 36) (v := ?_) (a' := ?_) #[true, true, true, true, true, true, false, false, false, false, false, false, false, false, false] rfl rfl (by kernel_rfl) (fun _ _ _ h => h) (Or.inl ⟨by rfl, ?_⟩) ?_ ?_
            rotate_left
            · intro w'
              go_simp
              with_reducible rfl
            rotate_left
            · simp only [Act.put, List.setIfInBounds_toArray, List.set_cons_zero, List.set_cons_succ, i64_w, i32_w]
              rfl
            refine pure_ (i := 6) (N := some 42) (v := ?_) (a' := ?_) #[true, true, true, true, true, true, true, false, false, false, false, false, false, false, false] rfl rfl (by kernel_rfl) (fun _ _ _ h => h) (Or.inl ⟨by rfl, ?_⟩) ?_ ?_
            rotate_left
            · intro w'
              go_simp
              with_reducible rfl
            rotate_left
            · simp only [Act.put, List.setIfInBounds_toArray, List.set_cons_zero, List.set_cons_succ, i64_w, i32_w]
              rfl
            refine pure_ (i := 7) (N := some 43) (v := ?_) (a' := ?_) #[true, true, true, true, true, true, true, true, false, false, false, false, false, false, false] rfl rfl (by kernel_rfl) (fun _ _ _ h => h) (Or.inl ⟨by rfl, ?_⟩) ?_ ?_
            rotate_left
            · intro w'
              go_simp
              with_reducible rfl
            rotate_left
            · simp only [Act.put, List.setIfInBounds_toArray, List.set_cons_zero, List.set_cons_succ, i64_w, i32_w]
              rfl
            refine pure_ (i := 8) (N := some 44) (v := ?_) (a' := ?_) #[true, true, true, true, true, true, true, true, true, false, false, false, false, false, false] rfl rfl (by kernel_rfl) (fun _ _ _ h => h) (Or.inl ⟨by rfl, ?_⟩) ?_ ?_
            rotate_left
            · intro w'
              go_simp
              with_reducible rfl
            rotate_left
            · simp only [Act.put, List.setIfInBounds_toArray, List.set_cons_zero, List.set_cons_succ, i64_w, i32_w]
              rfl
            refine pure_ (i := 9) (N := some 45) (v := ?_) (a' := ?_) #[true, true, true, true, true, true, true, true, true, true, false, false, false, false, false] rfl rfl (by kernel_rfl) (fun _ _ _ h => h) (Or.inl ⟨by rfl, ?_⟩) ?_ ?_
            rotate_left
            · intro w'
              go_simp
              with_reducible rfl
            rotate_left
            · simp only [Act.put, List.setIfInBounds_toArray, List.set_cons_zero, List.set_cons_succ, i64_w, i32_w]
              rfl
            exact norm_ (by first | (simp only [putAll, Act.put, List.setIfInBounds_toArray, List.set_cons_zero, List.set_cons_succ]; done) | (simp only [putAll, Act.put, List.setIfInBounds_toArray, List.set_cons_zero, List.set_cons_succ]; rfl)) (hJ1_2_4 ⟨g2, 0, v0, v1, x, y⟩ _ ⟨BW, h2⟩)
          · skip
            refine value_ (w1 := ?_) (v := ?_) (by rfl) rfl ?_ ?_
            rotate_left 2
            · go_simp
              constructor
              · rfl
              · rfl
            refine hK.out _ _ trivial (fun hHeld => ?_)
            clear hK K
            refine norm_ (a' := ?_) ?_ ?_
            rotate_left
            · show Act.put _ (some 13) _ = _
              simp only [Act.put, List.setIfInBounds_toArray, List.set_cons_zero, List.set_cons_succ, i64_w, i32_w]
              rfl
            exact norm_ (by first | (simp only [putAll, Act.put, List.setIfInBounds_toArray, List.set_cons_zero, List.set_cons_succ]; done) | (simp only [putAll, Act.put, List.setIfInBounds_toArray, List.set_cons_zero, List.set_cons_succ]; rfl)) (hJ1_2_10 ⟨g2, _, .bool false, .bool false, 0, 0⟩ _ ⟨(BW.trans (((Below.refl _ _).alloc (Nat.le_refl _) _).mono BW.size)), (h2.on ((Below.refl _ _).alloc (Nat.le_refl _) _)), BW.size, ⟨0, 0, (MapKept.heap_alloc _ _).1⟩⟩)
      · skip
        rintro ⟨g2, g10, v0, v1, x, y⟩ W ⟨BW, h2, l10, h10⟩
        replace BW : Below W0.heap.size W0 W := BW
        replace h2 : Z32 g2 W := h2
        replace h10 : K2 g10 W := h10
        replace l10 : W0.heap.size ≤ g10 := l10
        have hHeld : True := trivial
        refine norm_ (a' := ?_) ?_ ?_
        rotate_left
        · simp only [putAll, Act.put, List.setIfInBounds_toArray, List.set_cons_zero, List.set_cons_succ]
          rfl
        refine one_ (i := 4) (N := some 41) #[true, true, true, true, true, false, false, false, false, false, true, false, false, false, false] rfl rfl (by kernel_rfl) (by decide) (fun K hK => ?_)
        refine goes_ Tryd.func7 (by kernel_rfl) rfl #[.int .i64 sz, .slice (some ⟨g2, 0, none⟩) 32 32, .bool d, .slice none 0 0] (by rfl) rfl rfl (by (try simp only [List.map_toArray, List.map_cons, List.map_nil]); first | done | rfl) ?_
        refine (run_yes_all sz hs d g2 32 (by decide) _ h2).mono ?_
        rintro e W9 ⟨⟨v0, v1, x, y, rfl⟩, hb⟩
        refine ⟨_, rfl, ?_⟩
        replace BW := BW.trans (hb.mono BW.size)
        replace h2 := h2.on hb
        replace h10 := h10.on hb
        clear hb
        refine hK.out _ _ trivial (fun hHeld => ?_)
        clear hK K
        refine norm_ (a' := ?_) ?_ ?_
        rotate_left
        · show Act.put _ (some 41) _ = _
          simp only [Act.put, List.setIfInBounds_toArray, List.set_cons_zero, List.set_cons_succ, i64_w, i32_w]
          rfl
        refine pure_ (i := 5) (N := some 36) (v := ?_) (a' := ?_) #[true, true, true, true, true, true, false, false, false, false, true, false, false, false, false] rfl rfl (by kernel_rfl) (fun _ _ _ h => h) (Or.inl ⟨by rfl, ?_⟩) ?_ ?_
        rotate_left
        · intro w'
          go_simp
          with_reducible rfl
        rotate_left
        · simp only [Act.put, List.setIfInBounds_toArray, List.set_cons_zero, List.set_cons_succ, i64_w, i32_w]
          rfl
        refine pure_ (i := 6) (N := some 42) (v := ?_) (a' := ?_) #[true, true, true, true, true, true, true, false, false, false, true, false, false, false, false] rfl rfl (by kernel_rfl) (fun _ _ _ h => h) (Or.inl ⟨by rfl, ?_⟩) ?_ ?_
        rotate_left
        · intro w'
          go_simp
          with_reducible rfl
        rotate_left
        · simp only [Act.put, List.setIfInBounds_toArray, List.set_cons_zero, List.set_cons_succ, i64_w, i32_w]
          rfl
        refine pure_ (i := 7) (N := some 43) (v := ?_) (a' := ?_) #[true, true, true, true, true, true, true, true, false, false, true, false, false, false, false] rfl rfl (by kernel_rfl) (fun _ _ _ h => h) (Or.inl ⟨by rfl, ?_⟩) ?_ ?_
        rotate_left
        · intro w'
          go_simp
          with_reducible rfl
        rotate_left
        · simp only [Act.put, List.setIfInBounds_toArray, List.set_cons_zero, List.set_cons_succ, i64_w, i32_w]
          rfl
        refine pure_ (i := 8) (N := some 44) (v := ?_) (a' := ?_) #[true, true, true, true, true, true, true, true, true, false, true, false, false, false, false] rfl rfl (by kernel_rfl) (fun _ _ _ h => h) (Or.inl ⟨by rfl, ?_⟩) ?_ ?_
        rotate_left
        · intro w'
          go_simp
          with_reducible rfl
        rotate_left
        · simp only [Act.put, List.setIfInBounds_toArray, List.set_cons_zero, List.set_cons_succ, i64_w, i32_w]
          rfl
        refine pure_ (i := 9) (N := some 45) (v := ?_) (a' := ?_) #[true, true, true, true, true, true, true, true, true, true, true, false, false, false, false] rfl rfl (by kernel_rfl) (fun _ _ _ h => h) (Or.inl ⟨by rfl, ?_⟩) ?_ ?_
        rotate_left
        · intro w'
          go_simp
          with_reducible rfl
        rotate_left
        · simp only [Act.put, List.setIfInBounds_toArray, List.set_cons_zero, List.set_cons_succ, i64_w, i32_w]
          rfl
        exact norm_ (by first | (simp only [putAll, Act.put, List.setIfInBounds_toArray, List.set_cons_zero, List.set_cons_succ]; done) | (simp only [putAll, Act.put, List.setIfInBounds_toArray, List.set_cons_zero, List.set_cons_succ]; rfl)) (hJ1_2_4_10 ⟨g2, g10, v0, v1, x, y⟩ _ ⟨BW, h2, l10, h10⟩)
    · skip
      rintro ⟨g2, g10, v0, v1, x, y⟩ W ⟨BW, h2⟩
      replace BW : Below W0.heap.size W0 W := BW
      replace h2 : Z32 g2 W := h2
      have hHeld : True := trivial
      refine norm_ (a' := ?_) ?_ ?_
      rotate_left
      · simp only [putAll, Act.put, List.setIfInBounds_toArray, List.set_cons_zero, List.set_cons_succ]
        rfl
      refine one_ (i := 10) (N := some 13) #[true, true, true, true, true, true, true, true, true, true, true, false, false, false, false] rfl rfl (by kernel_rfl) (by decide) (fun K hK => ?_)
      refine value_ (w1 := ?_) (v := ?_) (by rfl) rfl ?_ ?_
      rotate_left 2
      · go_simp
        constructor
        · rfl
        · rfl
      refine hK.out _ _ trivial (fun hHeld => ?_)
      clear hK K
      refine norm_ (a' := ?_) ?_ ?_
      rotate_left
      · show Act.put _ (some 13) _ = _
        simp only [Act.put, List.setIfInBounds_toArray, List.set_cons_zero, List.set_cons_succ, i64_w, i32_w]
        rfl
      exact norm_ (by first | (simp only [putAll, Act.put, List.setIfInBounds_toArray, List.set_cons_zero, List.set_cons_succ]; done) | (simp only [putAll, Act.put, List.setIfInBounds_toArray, List.set_cons_zero, List.set_cons_succ]; rfl)) (hJ1_2_4_10 ⟨g2, _, v0, v1, x, y⟩ _ ⟨(BW.trans (((Below.refl _ _).alloc (Nat.le_refl _) _).mono BW.size)), (h2.on ((Below.refl _ _).alloc (Nat.le_refl _) _)), BW.size, ⟨0, 0, (MapKept.heap_alloc _ _).1⟩⟩)
  rintro ⟨g2, g10, v0, v1, x, y⟩ W ⟨BW, h2, l10, h10⟩
  replace BW : Below W0.heap.size W0 W := BW
  replace h2 : Z32 g2 W := h2
  replace h10 : K2 g10 W := h10
  replace l10 : W0.heap.size ≤ g10 := l10
  have hHeld : True := trivial
  refine norm_ (a' := ?_) ?_ ?_
  rotate_left
  · simp only [putAll, Act.put, List.setIfInBounds_toArray, List.set_cons_zero, List.set_cons_succ]
    rfl
  refine pure_ (i := 11) (N := some 11) (v := ?_) (a' := ?_) #[true, true, true, true, true, true, true, true, true, true, true, true, false, false, false] rfl rfl (by kernel_rfl) (fun _ _ _ h => h) (Or.inl ⟨by rfl, ?_⟩) ?_ ?_
  rotate_left
  · intro w'
    go_simp
    with_reducible rfl
  rotate_left
  · simp only [Act.put, List.setIfInBounds_toArray, List.set_cons_zero, List.set_cons_succ, i64_w, i32_w]
    rfl
  refine pure_ (i := 12) (N := some 12) (v := ?_) (a' := ?_) #[true, true, true, true, true, true, true, true, true, true, true, true, true, false, false] rfl rfl (by kernel_rfl) (fun _ _ _ h => h) (Or.inl ⟨by rfl, ?_⟩) ?_ ?_
  rotate_left
  · intro w'
    go_simp
    with_reducible rfl
  rotate_left
  · simp only [Act.put, List.setIfInBounds_toArray, List.set_cons_zero, List.set_cons_succ, i64_w, i32_w]
    rfl
  refine one_ (i := 13) (N := none) #[true, true, true, true, true, true, true, true, true, true, true, true, true, true, false] rfl rfl (by kernel_rfl) (by decide) (fun K hK => ?_)
  obtain ⟨x0, x1, hk⟩ := id h10
  have c0 := (blk_cell hk 0).trans (show _ = some (.int .i64 x0) from rfl)
  have c1 := (blk_cell hk 1).trans (show _ = some (.int .i64 x1) from rfl)
  have f0 := blk_frozen hk 0
  have f1 := blk_frozen hk 1
  refine skip_ (w1 := ?_) (by rfl) rfl ?_ ?_
  rotate_left
  · go_simp
    rfl
  clear c0 c1 f0 f1 hk
  refine hK.out _ _ trivial (fun hHeld => ?_)
  clear hK K
  refine pure_ (i := 14) (N := some 14) (v := ?_) (a' := ?_) #[true, true, true, true, true, true, true, true, true, true, true, true, true, true, true] rfl rfl (by kernel_rfl) (fun _ _ _ h => h) (Or.inl ⟨by rfl, ?_⟩) ?_ ?_
  rotate_left
  · intro w'
    go_simp
    with_reducible rfl
  rotate_left
  · simp only [Act.put, List.setIfInBounds_toArray, List.set_cons_zero, List.set_cons_succ, i64_w, i32_w]
    rfl
  refine done_ (by kernel_rfl) ?_
  generalize hW : World.setCell (World.setCell _ _ _) _ _ = W5
  have BF : Below w.heap.size w W5 := by
    rw [← hW]
    exact ((B0.trans (BW.mono B0.size)).setCell (p := ⟨g10, 0, none⟩) (Nat.le_trans B0.size l10) _).setCell (p := ⟨g10, 1, none⟩) (Nat.le_trans B0.size l10) _
  have E1 := Lib.hid BF
  clear hW BF BW B0 hmk
  go_wp2_with fail
  go_ret
  exact ⟨rfl, E1.out⟩
set_option maxHeartbeats 4000000 in
set_option maxRecDepth 100000 in
theorem refused_long (a : Int) (A : Option Addr) (n c : Nat) (d : Bool) (w : World) (hl : 2147483647 < n) :
    Calls Tryd.prog 3 #[.int .u8 a, .slice A n c, .bool d] w fun e w' => e = .returned (.bool true) ∧ Below w.heap.size w w' := by
  have b1 : decide ((n : Int) > 2147483647) = true := decide_eq_true (by omega)
  go_enter Tryd.func3, Tryd.ntmps3
  go_wp2_with fail
  go_ret
  exact ⟨rfl, Below.refl _ _⟩
set_option maxHeartbeats 4000000 in
set_option maxRecDepth 100000 in
theorem refused_just (a : Int) (A : Option Addr) (n c : Nat) (d : Bool) (w : World) (hl : n = 32) :
    Calls Tryd.prog 3 #[.int .u8 a, .slice A n c, .bool d] w fun e w' => e = .returned (.bool true) ∧ Below w.heap.size w w' := by
  subst hl
  go_enter Tryd.func3, Tryd.ntmps3
  go_wp2_with fail
  go_ret
  exact ⟨rfl, Below.refl _ _⟩
set_option maxHeartbeats 4000000 in
set_option maxRecDepth 100000 in
theorem refused_many (a : Int) (A : Option Addr) (n c : Nat) (d : Bool) (w : World) (hl : ¬ 2147483647 < n) (h2 : n ≠ 32) (h3 : 100 < n) :
    Calls Tryd.prog 3 #[.int .u8 a, .slice A n c, .bool d] w fun e w' => e = .returned (.bool true) ∧ Below w.heap.size w w' := by
  have b1 : decide ((n : Int) > 2147483647) = false := decide_eq_false (by omega)
  have b2 : ((n : Int) == 32) = false := by rw [beq_eq_false_iff_ne]; omega
  have b3 : decide ((n : Int) > 100) = true := decide_eq_true (by omega)
  go_enter Tryd.func3, Tryd.ntmps3
  go_wp2_with fail
  go_ret
  exact ⟨rfl, Below.refl _ _⟩
theorem row_C {A : Option Addr} {len cap : Nat} {z : List Int} {w : World} (h : (A = none ∧ len = 0 ∧ cap = 0 ∧ z = []) ∨ ∃ x, A = some x ∧ len ≤ cap ∧ cap ≤ maxLen ∧ z.length = cap ∧ (∀ i, i < z.length → w.cell? (x.add i) = some (.int .u8 (z.getD i 0))) ∧ ∀ n ∈ z, (Lit.int .u8 n).wf = true) :
    ∃ l : List Int, l.length = len ∧ len ≤ cap ∧ Kd.C (Kd.int .u8) w A l.length l := by
  rcases h with ⟨rfl, rfl, rfl, rfl⟩ | ⟨x, rfl, hl, hm, hz, hc, _⟩
  · exact ⟨[], rfl, Nat.le_refl _, rfl, show 0 * 1 ≤ 9223372036854775807 by decide, fun h => absurd h (by simp)⟩
  · have hlen : (z.take len).length = len := by rw [List.length_take]; omega
    refine ⟨z.take len, hlen, hl, rfl, ?_, fun _ => ⟨x, rfl, fun j p hj => ?_⟩⟩
    · rw [hlen]
      show len ≤ 9223372036854775807
      have : maxLen = 9223372036854775807 := rfl
      omega
    · have hj' : j < len := by
        rcases Nat.lt_or_ge j len with h | h
        · exact h
        · rw [List.getElem?_eq_none (by rw [hlen]; exact h)] at hj
          exact absurd hj (by simp)
      rw [List.getElem?_take_of_lt hj'] at hj
      refine ⟨[.int .u8 p], rfl, rfl, fun i u hu => ?_⟩
      match i, hu with
      | 0, hu =>
        obtain rfl : Value.int .u8 p = u := by simpa using hu
        rw [show j * (Kd.int .u8).sz + 0 = j by show j * 1 + 0 = j; omega, hc j (by omega), List.getD_eq_getElem?_getD, hj]
        rfl
theorem refused_law (a : Int) (A : Option Addr) (len cap : Nat) (z : List Int) (d : Bool) (w : World) (ha : 0 ≤ a ∧ a ≤ 255)
    (hR : (A = none ∧ len = 0 ∧ cap = 0 ∧ z = []) ∨ ∃ x, A = some x ∧ len ≤ cap ∧ cap ≤ maxLen ∧ z.length = cap ∧ (∀ i, i < z.length → w.cell? (x.add i) = some (.int .u8 (z.getD i 0))) ∧ ∀ n ∈ z, (Lit.int .u8 n).wf = true)
    (hy : len * 1 ≤ 140737488351232) (hL : laidMetH Tryd.prog Rows.fnHighwayRefusedRow.laid w) :
    Calls Tryd.prog 3 #[.int .u8 a, .slice A len cap, .bool d] w fun e w' => e = .returned (.bool true) ∧ Below w.heap.size w w' := by
  obtain ⟨l, rfl, hc, hC⟩ := row_C hR
  by_cases h1 : 2147483647 < l.length
  · exact refused_long a A _ cap d w h1
  · by_cases h2 : l.length = 32
    · exact refused_just a A _ cap d w h2
    · by_cases h3 : 100 < l.length
      · exact refused_many a A _ cap d w h1 h2 h3
      · exact refused_walk a A cap l d ha w hC hc (by omega) h2 (globK_of hL)
end Go.Proofs.YtnehminojlocoaaDoor.PAll
