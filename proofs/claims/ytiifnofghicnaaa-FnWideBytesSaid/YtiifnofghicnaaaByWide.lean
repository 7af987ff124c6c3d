/- impl.WideFromBytes. Printed by gen/bywide.py. -/
import Derived.Test.YtiifnofghicnaaaByFrom
namespace Go.Proofs.Ytiifnofghicnaaa.BAll
open Go.RowKit Go.Proofs.YtiifnofghicnaaaW.PrintWords Go.Proofs.YtiifnofghicnaaaW.PrintLast Go.Proofs.YtiifnofghicnaaaW.PrintMore
attribute [local go_sem] max2_int min2_int max_two min_two max_three min_three max_four min_four
set_option linter.unusedVariables false
set_option linter.unusedSimpArgs false
def wfb (l : List Int) (big : Bool) : Option (Int × Int × Bool) :=
  if l.length < 16 then some (0, 0, false) else if 1048576 < l.length then none else
  if big = true then some (or8 (l.getD 15 0) (l.getD 14 0) (l.getD 13 0) (l.getD 12 0) (l.getD 11 0) (l.getD 10 0) (l.getD 9 0) (l.getD 8 0), or8 (l.getD 7 0) (l.getD 6 0) (l.getD 5 0) (l.getD 4 0) (l.getD 3 0) (l.getD 2 0) (l.getD 1 0) (l.getD 0 0), true) else some (or8 (l.getD 0 0) (l.getD 1 0) (l.getD 2 0) (l.getD 3 0) (l.getD 4 0) (l.getD 5 0) (l.getD 6 0) (l.getD 7 0), or8 (l.getD 8 0) (l.getD 9 0) (l.getD 10 0) (l.getD 11 0) (l.getD 12 0) (l.getD 13 0) (l.getD 14 0) (l.getD 15 0), true)
/-- A row of octets of one's own, opened: its block, its cells. -/
theorem own_open {w : World} {base : Nat} {v : Value} {l : List Int} (h : Kd.R (Kd.int .u8) 5 w base (fun _ => True) v l) (hl : 0 < l.length) :
    ∃ g cap cur, v = .slice (some ⟨g, 0, none⟩) l.length cap ∧ base ≤ g ∧ w.heap[g]? = some (.cells cur 5 (0, 0)) ∧ l.length ≤ cap ∧ cap ≤ maxLen ∧ cur.size = cap ∧ cur.toList.take l.length = l.map (Value.int .u8) := by
  have ho := Kd.own_of_R (enc := Value.int .u8) (h1 := fun _ => rfl) h
  rcases ho.2 with ⟨_, h0⟩ | ⟨g, cap, cur, rfl, hg, hh, hle, hm, hsz, htk⟩
  · omega
  · refine ⟨g, cap, cur, rfl, hg, hh, hle, hm, by rw [hsz, Nat.mul_one], ?_⟩
    rw [Nat.mul_one] at htk
    exact htk
theorem own_xs {w : World} {g : Nat} {cur : Array Value} {T : Nat} {l : List Int} (hh : w.heap[g]? = some (.cells cur T (0, 0))) (htk : cur.toList.take l.length = l.map (Value.int .u8)) : Xs g l.length (fun i => l.getD i 0) w := by
  intro i hi
  rw [blk_cell hh]
  have h1 : (cur.toList.take l.length)[i]? = cur[i]? := by rw [List.getElem?_take_of_lt hi, Array.getElem?_toList]
  rw [← h1, htk, List.getElem?_map]
  show Option.map (Value.int .u8) l[i]? = some (Value.int .u8 (l.getD i 0))
  rw [List.getD_eq_getElem?_getD, List.getElem?_eq_getElem hi]
  rfl
set_option maxHeartbeats 4000000 in
set_option maxRecDepth 100000 in
theorem wfb_short (A : Option Addr) (n c : Nat) (b : Bool) (hn : n < 16) (w : World) :
    Calls Try.prog 74 #[.slice A n c, .bool b] w fun e w' => e = .returned (.tuple #[.agg #[.int .u64 0, .int .u64 0], .bool false]) ∧ Below w.heap.size w w' := by
  have hlt : decide ((n : Int) < 16) = true := decide_eq_true (by omega)
  have KT := (MapKept.heap_alloc w (.cells #[.int .u64 0, .int .u64 0] 24)).1
  have BW := (Below.refl w.heap.size w).alloc (Nat.le_refl _) (.cells #[.int .u64 0, .int .u64 0] 24)
  have E0 := Lib.hid BW
  have d0 := (blk_cell KT 0).trans (show _ = some (.int .u64 0) from rfl)
  have d1 := (blk_cell KT 1).trans (show _ = some (.int .u64 0) from rfl)
  clear KT BW
  go_enter Try.func74, Try.ntmps74
  go_wp2_with fail
  refine bodyPost_ret (v := .tuple #[.agg #[.int .u64 0, .int .u64 0], .bool false]) (by simp [results, Try.results74, go_sem]) rfl ⟨rfl, ?_⟩
  first
  | exact E0.out
  | exact (E0.out.setCell (p := ⟨w.heap.size, 0, none⟩) (Nat.le_refl _) _).setCell (p := ⟨w.heap.size, 1, none⟩) (Nat.le_refl _) _
set_option maxHeartbeats 4000000 in
set_option maxRecDepth 100000 in
theorem wfb_big (x : Nat → Int) (A : Option Addr) (c : Nat) (l0 : List Int) (hxe : ∀ i, x i = l0.getD i 0) (hn : 16 ≤ l0.length) (hm : l0.length ≤ 1048576) (w : World) (hr0 : Kd.C (Kd.int .u8) w A l0.length l0) (hc0 : l0.length ≤ c) :
    Calls Try.prog 74 #[.slice A l0.length c, .bool true] w fun e w' => e = .returned (.tuple #[.agg #[.int .u64 (or8 (x 15) (x 14) (x 13) (x 12) (x 11) (x 10) (x 9) (x 8)), .int .u64 (or8 (x 7) (x 6) (x 5) (x 4) (x 3) (x 2) (x 1) (x 0))], .bool true]) ∧ Below w.heap.size w w' := by
  have hlt : decide ((l0.length : Int) < 16) = false := decide_eq_false (by omega)
  have HR0 := Aside0.mk hr0
  have HC0 := Aside0.mk hc0
  have LM := Aside0.mk (And.intro hn hm)
  clear hr0 hc0 hn hm
  have HB := Aside0.mk (Below.refl (w.heap.size + 1) (w.alloc (.cells #[.int .u64 0, .int .u64 0] 24)))
  have KT := Aside0.mk (MapKept.heap_alloc w (.cells #[.int .u64 0, .int .u64 0] 24)).1
  have HA := Aside0.mk ((Below.refl w.heap.size w).alloc (Nat.le_refl _) (.cells #[.int .u64 0, .int .u64 0] 24))
  have hC1 : Aside0 (∀ W, Below (w.heap.size + 1) (w.alloc (.cells #[.int .u64 0, .int .u64 0] 24)) W → Kd.C (Kd.int .u8) W A l0.length l0) := Aside0.mk fun W hW => Kd.C_below HR0.out (HA.out.trans (hW.mono (by omega)))
  go_enter Try.func74, Try.ntmps74
  go_wp2_with (first | ((with_reducible refine gate_dst (N := 11) rfl ?_); refine Kd.R_lit (Kd.int .u8) _ 5 ?hg (N := 11) ?hd (xs := ([] : List Int)) (inner := []) (ok := fun _ => True) (okp := fun _ => True) ?hr ?hp (fun _ hk => hk) trivial (Below.refl _ _) (Nat.le_refl _) (by simp) ?_; (case hd => rfl); (case hg => rfl); (case hr => first | (go_simp; done) | (go_simp; rfl)); (case hp => exact (Reps.none _ _)); intro v102 w3 ho4 hb hg_ hnew_; clear hg_ hnew_; have n0_ : Aside0 (Kd.R (Kd.int .u8) 5 w3 (w.heap.size + 1) (fun _ => True) v102 []) := Aside0.mk (Kd.R_lower ho4 (by have hq_ := HB.out.size; first | exact hq_ | (simp at hq_; omega) | (simp; done))); have n1_ := Aside0.mk (below_then HB.out (by have hq_ := HB.out.size; first | exact hq_ | (simp at hq_; omega) | (simp; done)) hb); clear HB; have HO103 := n0_; have HB := n1_; clear n0_ n1_; clear hb ho4) | ((with_reducible refine gate_builtin (b := .append) (xs := #[.tmp 11, .tmp 12]) rfl ?_); at_builtin; refine Kd.R_append_rows (Kd.int .u8) (w0 := w.alloc (.cells #[.int .u64 0, .int .u64 0] 24)) (w.heap.size + 1) rfl (.tmp 11) (.tmp 12) 54 5 (.int .u8 0) 1 rfl Try.underlying54 (by kernel_rfl) rfl (by decide) (by omega) v102 [] l0 _ _ _ (fun _ => True) (fun _ => False) rfl rfl ?aO ?aR (fun _ _ h => h) (fun _ h => h.elim) ?aF ?aB ?aS ?aL ?_; (case aR => exact (hC1.out _ HB.out)); (case aB => exact (by repeat (first | (with_reducible first | exact HB.out | apply below_alloc | apply pw_below_drewN | apply below_drew1) | exact HB.out))); (case aF => exact (fun _ _ => trivial)); (case aO => exact (by (with_reducible repeat (first | apply Kd.R_alloc | apply Kd.R_drewN | apply Kd.R_drew)); exact HO103.out)); (case aS => exact (by have hq_ := HB.out.size; first | exact hq_ | (simp at hq_; omega) | (simp; done))); (case aL => have := LM.out; simp; omega); intro v105 w5 ho hb hg hat; have n0_ := Aside0.mk hb; have n1_ := Aside0.mk ho; clear HB; clear HO103; have HB := n0_; have HO106 := n1_; clear n0_ n1_; clear ho hb hg hat))
  have hK5 := (HB.out.block _ (Nat.lt_succ_self _)).trans KT.out
  have hR5 := HO106.out
  rw [List.nil_append] at hR5
  obtain ⟨g, cap, cur, rfl, hg, hh, hle, hm, hsz, htk⟩ := own_open hR5 (by have := LM.out; omega)
  have hx : Xs g 16 x w5 := fun i hi => by
    rw [hxe]
    exact own_xs hh htk i (by have := LM.out; omega)
  clear hxe
  have HB5 := Lib.hid (And.intro hK5 (HA.out.trans (HB.out.mono (by omega))))
  clear hK5 hR5 HO106 HB KT HA hh htk hsz hC1
  refine (fromBE_walk g _ cap LM.out.1 hle _ w5 hx).mono ?_
  rintro e w6 ⟨rfl, hb6⟩
  have HB6 := Lib.hid (And.intro (by_on HB5.out.1 hb6) (HB5.out.2.trans (hb6.mono HB5.out.2.size)))
  clear hb6 HB5 hx
  go_wp2_with fail
  refine (wide_walk _ _ _).mono ?_
  rintro e w7 ⟨rfl, hb7⟩
  obtain ⟨KT, BW⟩ := And.intro (by_on HB6.out.1 hb7) (HB6.out.2.trans (hb7.mono HB6.out.2.size))
  have c0 := (blk_cell KT 0).trans (show _ = some (.int .u64 0) from rfl)
  have c1 := (blk_cell KT 1).trans (show _ = some (.int .u64 0) from rfl)
  have f0 := blk_frozen KT 0
  have f1 := blk_frozen KT 1
  have E7 := Lib.hid (And.intro KT BW)
  clear KT BW hb7 HB6
  go_wp2_with fail
  obtain ⟨KT, BW⟩ := E7.out
  have KF := blk_put (blk_set KT 0 (.int .u64 (or8 (x 15) (x 14) (x 13) (x 12) (x 11) (x 10) (x 9) (x 8)))) 1 (.int .u64 (or8 (x 7) (x 6) (x 5) (x 4) (x 3) (x 2) (x 1) (x 0))) rfl
  have d0 := (blk_cell KF 0).trans (show _ = some (.int .u64 (or8 (x 15) (x 14) (x 13) (x 12) (x 11) (x 10) (x 9) (x 8))) from rfl)
  have d1 := (blk_cell KF 1).trans (show _ = some (.int .u64 (or8 (x 7) (x 6) (x 5) (x 4) (x 3) (x 2) (x 1) (x 0))) from rfl)
  have BF := Lib.hid ((BW.setCell (p := ⟨w.heap.size, 0, none⟩) (Nat.le_refl _) (.int .u64 (or8 (x 15) (x 14) (x 13) (x 12) (x 11) (x 10) (x 9) (x 8)))).setCell (p := ⟨w.heap.size, 1, none⟩) (Nat.le_refl _) (.int .u64 (or8 (x 7) (x 6) (x 5) (x 4) (x 3) (x 2) (x 1) (x 0))))
  clear KF KT BW E7 c0 c1 f0 f1
  generalize (w7.setCell ⟨w.heap.size, 0, none⟩ (.int .u64 (or8 (x 15) (x 14) (x 13) (x 12) (x 11) (x 10) (x 9) (x 8)))).setCell ⟨w.heap.size, 1, none⟩ (.int .u64 (or8 (x 7) (x 6) (x 5) (x 4) (x 3) (x 2) (x 1) (x 0))) = W8 at d0 d1 BF ⊢
  refine bodyPost_ret (v := .tuple #[.agg #[.int .u64 (or8 (x 15) (x 14) (x 13) (x 12) (x 11) (x 10) (x 9) (x 8)), .int .u64 (or8 (x 7) (x 6) (x 5) (x 4) (x 3) (x 2) (x 1) (x 0))], .bool true]) (by simp [results, Try.results74, go_sem, d0, d1]) rfl ⟨rfl, BF.out⟩
set_option maxHeartbeats 4000000 in
set_option maxRecDepth 100000 in
theorem wfb_little (x : Nat → Int) (A : Option Addr) (c : Nat) (l0 : List Int) (hxe : ∀ i, x i = l0.getD i 0) (hn : 16 ≤ l0.length) (hm : l0.length ≤ 1048576) (w : World) (hr0 : Kd.C (Kd.int .u8) w A l0.length l0) (hc0 : l0.length ≤ c) :
    Calls Try.prog 74 #[.slice A l0.length c, .bool false] w fun e w' => e = .returned (.tuple #[.agg #[.int .u64 (or8 (x 0) (x 1) (x 2) (x 3) (x 4) (x 5) (x 6) (x 7)), .int .u64 (or8 (x 8) (x 9) (x 10) (x 11) (x 12) (x 13) (x 14) (x 15))], .bool true]) ∧ Below w.heap.size w w' := by
  have hlt : decide ((l0.length : Int) < 16) = false := decide_eq_false (by omega)
  have HR0 := Aside0.mk hr0
  have HC0 := Aside0.mk hc0
  have LM := Aside0.mk (And.intro hn hm)
  clear hr0 hc0 hn hm
  have HB := Aside0.mk (Below.refl (w.heap.size + 1) (w.alloc (.cells #[.int .u64 0, .int .u64 0] 24)))
  have KT := Aside0.mk (MapKept.heap_alloc w (.cells #[.int .u64 0, .int .u64 0] 24)).1
  have HA := Aside0.mk ((Below.refl w.heap.size w).alloc (Nat.le_refl _) (.cells #[.int .u64 0, .int .u64 0] 24))
  have hC1 : Aside0 (∀ W, Below (w.heap.size + 1) (w.alloc (.cells #[.int .u64 0, .int .u64 0] 24)) W → Kd.C (Kd.int .u8) W A l0.length l0) := Aside0.mk fun W hW => Kd.C_below HR0.out (HA.out.trans (hW.mono (by omega)))
  go_enter Try.func74, Try.ntmps74
  go_wp2_with (first | ((with_reducible refine gate_dst (N := 16) rfl ?_); refine Kd.R_lit (Kd.int .u8) _ 5 ?hg (N := 16) ?hd (xs := ([] : List Int)) (inner := []) (ok := fun _ => True) (okp := fun _ => True) ?hr ?hp (fun _ hk => hk) trivial (Below.refl _ _) (Nat.le_refl _) (by simp) ?_; (case hd => rfl); (case hg => rfl); (case hr => first | (go_simp; done) | (go_simp; rfl)); (case hp => exact (Reps.none _ _)); intro v102 w3 ho4 hb hg_ hnew_; clear hg_ hnew_; have n0_ : Aside0 (Kd.R (Kd.int .u8) 5 w3 (w.heap.size + 1) (fun _ => True) v102 []) := Aside0.mk (Kd.R_lower ho4 (by have hq_ := HB.out.size; first | exact hq_ | (simp at hq_; omega) | (simp; done))); have n1_ := Aside0.mk (below_then HB.out (by have hq_ := HB.out.size; first | exact hq_ | (simp at hq_; omega) | (simp; done)) hb); clear HB; have HO103 := n0_; have HB := n1_; clear n0_ n1_; clear hb ho4) | ((with_reducible refine gate_builtin (b := .append) (xs := #[.tmp 16, .tmp 17]) rfl ?_); at_builtin; refine Kd.R_append_rows (Kd.int .u8) (w0 := w.alloc (.cells #[.int .u64 0, .int .u64 0] 24)) (w.heap.size + 1) rfl (.tmp 16) (.tmp 17) 54 5 (.int .u8 0) 1 rfl Try.underlying54 (by kernel_rfl) rfl (by decide) (by omega) v102 [] l0 _ _ _ (fun _ => True) (fun _ => False) rfl rfl ?aO ?aR (fun _ _ h => h) (fun _ h => h.elim) ?aF ?aB ?aS ?aL ?_; (case aR => exact (hC1.out _ HB.out)); (case aB => exact (by repeat (first | (with_reducible first | exact HB.out | apply below_alloc | apply pw_below_drewN | apply below_drew1) | exact HB.out))); (case aF => exact (fun _ _ => trivial)); (case aO => exact (by (with_reducible repeat (first | apply Kd.R_alloc | apply Kd.R_drewN | apply Kd.R_drew)); exact HO103.out)); (case aS => exact (by have hq_ := HB.out.size; first | exact hq_ | (simp at hq_; omega) | (simp; done))); (case aL => have := LM.out; simp; omega); intro v105 w5 ho hb hg hat; have n0_ := Aside0.mk hb; have n1_ := Aside0.mk ho; clear HB; clear HO103; have HB := n0_; have HO106 := n1_; clear n0_ n1_; clear ho hb hg hat))
  have hK5 := (HB.out.block _ (Nat.lt_succ_self _)).trans KT.out
  have hR5 := HO106.out
  rw [List.nil_append] at hR5
  obtain ⟨g, cap, cur, rfl, hg, hh, hle, hm, hsz, htk⟩ := own_open hR5 (by have := LM.out; omega)
  have hx : Xs g 16 x w5 := fun i hi => by
    rw [hxe]
    exact own_xs hh htk i (by have := LM.out; omega)
  clear hxe
  have HB5 := Lib.hid (And.intro hK5 (HA.out.trans (HB.out.mono (by omega))))
  clear hK5 hR5 HO106 HB KT HA hh htk hsz hC1
  refine (from_walk g _ cap LM.out.1 hle _ w5 hx).mono ?_
  rintro e w6 ⟨rfl, hb6⟩
  have HB6 := Lib.hid (And.intro (by_on HB5.out.1 hb6) (HB5.out.2.trans (hb6.mono HB5.out.2.size)))
  clear hb6 HB5 hx
  go_wp2_with fail
  refine (wide_walk _ _ _).mono ?_
  rintro e w7 ⟨rfl, hb7⟩
  obtain ⟨KT, BW⟩ := And.intro (by_on HB6.out.1 hb7) (HB6.out.2.trans (hb7.mono HB6.out.2.size))
  have c0 := (blk_cell KT 0).trans (show _ = some (.int .u64 0) from rfl)
  have c1 := (blk_cell KT 1).trans (show _ = some (.int .u64 0) from rfl)
  have f0 := blk_frozen KT 0
  have f1 := blk_frozen KT 1
  have E7 := Lib.hid (And.intro KT BW)
  clear KT BW hb7 HB6
  go_wp2_with fail
  obtain ⟨KT, BW⟩ := E7.out
  have KF := blk_put (blk_set KT 0 (.int .u64 (or8 (x 0) (x 1) (x 2) (x 3) (x 4) (x 5) (x 6) (x 7)))) 1 (.int .u64 (or8 (x 8) (x 9) (x 10) (x 11) (x 12) (x 13) (x 14) (x 15))) rfl
  have d0 := (blk_cell KF 0).trans (show _ = some (.int .u64 (or8 (x 0) (x 1) (x 2) (x 3) (x 4) (x 5) (x 6) (x 7))) from rfl)
  have d1 := (blk_cell KF 1).trans (show _ = some (.int .u64 (or8 (x 8) (x 9) (x 10) (x 11) (x 12) (x 13) (x 14) (x 15))) from rfl)
  have BF := Lib.hid ((BW.setCell (p := ⟨w.heap.size, 0, none⟩) (Nat.le_refl _) (.int .u64 (or8 (x 0) (x 1) (x 2) (x 3) (x 4) (x 5) (x 6) (x 7)))).setCell (p := ⟨w.heap.size, 1, none⟩) (Nat.le_refl _) (.int .u64 (or8 (x 8) (x 9) (x 10) (x 11) (x 12) (x 13) (x 14) (x 15))))
  clear KF KT BW E7 c0 c1 f0 f1
  generalize (w7.setCell ⟨w.heap.size, 0, none⟩ (.int .u64 (or8 (x 0) (x 1) (x 2) (x 3) (x 4) (x 5) (x 6) (x 7)))).setCell ⟨w.heap.size, 1, none⟩ (.int .u64 (or8 (x 8) (x 9) (x 10) (x 11) (x 12) (x 13) (x 14) (x 15))) = W8 at d0 d1 BF ⊢
  refine bodyPost_ret (v := .tuple #[.agg #[.int .u64 (or8 (x 0) (x 1) (x 2) (x 3) (x 4) (x 5) (x 6) (x 7)), .int .u64 (or8 (x 8) (x 9) (x 10) (x 11) (x 12) (x 13) (x 14) (x 15))], .bool true]) (by simp [results, Try.results74, go_sem, d0, d1]) rfl ⟨rfl, BF.out⟩
end Go.Proofs.Ytiifnofghicnaaa.BAll
