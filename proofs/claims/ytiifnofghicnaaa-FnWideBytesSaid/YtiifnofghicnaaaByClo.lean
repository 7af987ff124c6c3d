/- impl.WidePut: its closure, tried over []byte. Printed by gen/byclo.py. -/
import Derived.Test.YtiifnofghicnaaaByDie3
namespace Go.Proofs.Ytiifnofghicnaaa.BAll
open Go.RowKit Go.Proofs.YtiifnofghicnaaaW.PrintWords Go.Proofs.YtiifnofghicnaaaW.PrintLast Go.Proofs.YtiifnofghicnaaaW.PrintMore
attribute [local go_sem] max2_int min2_int max_two min_two max_three min_three max_four min_four
set_option linter.unusedVariables false
set_option linter.unusedSimpArgs false
/-- A block of octets behind PutBytes (big: PutBytesBE). -/
def put16 (big : Bool) (cur : Array Value) (a b : Int) : Array Value := if big = true then (put8 (put8 cur 0 (b / 72057594037927936 % 256) (b / 281474976710656 % 256) (b / 1099511627776 % 256) (b / 4294967296 % 256) (b / 16777216 % 256) (b / 65536 % 256) (b / 256 % 256) (b % 256)) 8 (a / 72057594037927936 % 256) (a / 281474976710656 % 256) (a / 1099511627776 % 256) (a / 4294967296 % 256) (a / 16777216 % 256) (a / 65536 % 256) (a / 256 % 256) (a % 256)) else (put8 (put8 cur 0 (a % 256) (a / 256 % 256) (a / 65536 % 256) (a / 16777216 % 256) (a / 4294967296 % 256) (a / 1099511627776 % 256) (a / 281474976710656 % 256) (a / 72057594037927936 % 256)) 8 (b % 256) (b / 256 % 256) (b / 65536 % 256) (b / 16777216 % 256) (b / 4294967296 % 256) (b / 1099511627776 % 256) (b / 281474976710656 % 256) (b / 72057594037927936 % 256))
theorem put16_true (cur : Array Value) (a b : Int) : put16 true cur a b = (put8 (put8 cur 0 (b / 72057594037927936 % 256) (b / 281474976710656 % 256) (b / 1099511627776 % 256) (b / 4294967296 % 256) (b / 16777216 % 256) (b / 65536 % 256) (b / 256 % 256) (b % 256)) 8 (a / 72057594037927936 % 256) (a / 281474976710656 % 256) (a / 1099511627776 % 256) (a / 4294967296 % 256) (a / 16777216 % 256) (a / 65536 % 256) (a / 256 % 256) (a % 256)) := by unfold put16; rw [if_pos rfl]
theorem put16_false (cur : Array Value) (a b : Int) : put16 false cur a b = (put8 (put8 cur 0 (a % 256) (a / 256 % 256) (a / 65536 % 256) (a / 16777216 % 256) (a / 4294967296 % 256) (a / 1099511627776 % 256) (a / 281474976710656 % 256) (a / 72057594037927936 % 256)) 8 (b % 256) (b / 256 % 256) (b / 65536 % 256) (b / 16777216 % 256) (b / 4294967296 % 256) (b / 1099511627776 % 256) (b / 281474976710656 % 256) (b / 72057594037927936 % 256)) := by unfold put16; rw [if_neg (by decide)]
set_option maxHeartbeats 1000000 in
set_option maxRecDepth 100000 in
theorem clo_ok_true (pa pb pg : Nat) (a b : Int) (A : Option Addr) (c : Nat) (l0 : List Int) (hm : l0.length ≤ 1048576) (h16 : 16 ≤ l0.length) (w : World) (hC : ∀ W, Below w.heap.size w W → Kd.C (Kd.int .u8) W A l0.length l0) (hpb : w.heap[pb]? = some (.cells #[.slice A l0.length c] 54 (0, 0))) (hpg : w.heap[pg]? = some (.cells #[.bool true] 4 (0, 0))) (hpa : w.heap[pa]? = some (.cells #[.int .u64 a, .int .u64 b] 24 (0, 0))) :
    Calls Try.prog 123 #[.pointer (some ⟨pb, 0, none⟩), .pointer (some ⟨pg, 0, none⟩), .pointer (some ⟨pa, 0, none⟩)] w fun e w' => (∃ g cap cur, e = .returned (.slice (some ⟨g, 0, none⟩) l0.length cap) ∧ w.heap.size ≤ g ∧ w'.heap[g]? = some (.cells (put16 true cur a b) 5 (0, 0)) ∧ l0.length ≤ cap ∧ cap ≤ maxLen ∧ cur.size = cap ∧ cur.toList.take l0.length = l0.map (Value.int .u8)) ∧ Below w.heap.size w w' := by
  have LM := Aside0.mk (And.intro hm hm)
  have HB := Aside0.mk (Below.refl w.heap.size w)
  have hC1 := Aside0.mk hC
  have HP := Lib.hid (And.intro hpb (And.intro hpg hpa))
  clear hm hC hpb hpg hpa
  go_enter Try.func123, Try.ntmps123
  go_upto_region 2 with (first | ((with_reducible refine gate_dst (N := 5) rfl ?_); refine Kd.R_lit (Kd.int .u8) _ 5 ?hg (N := 5) ?hd (xs := ([] : List Int)) (inner := []) (ok := fun _ => True) (okp := fun _ => True) ?hr ?hp (fun _ hk => hk) trivial (Below.refl _ _) (Nat.le_refl _) (by simp) ?_; (case hd => rfl); (case hg => rfl); (case hr => first | (go_simp; done) | (go_simp; rfl)); (case hp => exact (Reps.none _ _)); intro v102 w3 ho4 hb hg_ hnew_; clear hg_ hnew_; have n0_ : Aside0 (Kd.R (Kd.int .u8) 5 w3 w.heap.size (fun _ => True) v102 []) := Aside0.mk (Kd.R_lower ho4 (by have hq_ := HB.out.size; first | exact hq_ | (simp at hq_; omega) | (simp; done))); have n1_ := Aside0.mk (below_then HB.out (by have hq_ := HB.out.size; first | exact hq_ | (simp at hq_; omega) | (simp; done)) hb); clear HB; have HO103 := n0_; have HB := n1_; clear n0_ n1_; have c0 := (blk_cell (by_on HP.out.1 hb) 0).trans (show _ = some (.slice A l0.length c) from rfl); clear hb ho4) | ((with_reducible refine gate_builtin (b := .append) (xs := #[.tmp 5, .tmp 6]) rfl ?_); at_builtin; refine Kd.R_append_rows (Kd.int .u8) (w0 := w) w.heap.size rfl (.tmp 5) (.tmp 6) 54 5 (.int .u8 0) 1 rfl Try.underlying54 (by kernel_rfl) rfl (by decide) (by omega) v102 [] l0 _ _ _ (fun _ => True) (fun _ => False) rfl rfl ?aO ?aR (fun _ _ h => h) (fun _ h => h.elim) ?aF ?aB ?aS ?aL ?_; (case aR => exact (hC1.out _ HB.out)); (case aB => exact (by repeat (first | (with_reducible first | exact HB.out | apply below_alloc | apply pw_below_drewN | apply below_drew1) | exact HB.out))); (case aF => exact (fun _ _ => trivial)); (case aO => exact (by (with_reducible repeat (first | apply Kd.R_alloc | apply Kd.R_drewN | apply Kd.R_drew)); exact HO103.out)); (case aS => exact (by have hq_ := HB.out.size; first | exact hq_ | (simp at hq_; omega) | (simp; done))); (case aL => have := LM.out; simp; omega); intro v105 w5 ho hb hg hat; have n0_ := Aside0.mk hb; have n1_ := Aside0.mk ho; clear HB; clear HO103; have HB := n0_; have HO106 := n1_; clear n0_ n1_; clear ho hb hg hat))
  have hR5 := HO106.out
  rw [List.nil_append] at hR5
  have hBB := HB.out
  have kg := (hBB.block _ (blk_lt HP.out.2.1)).trans HP.out.2.1
  have ka := (hBB.block _ (blk_lt HP.out.2.2)).trans HP.out.2.2
  have d0 := (blk_cell kg 0).trans (show _ = some (.bool true) from rfl)
  have d1 := (blk_cell ka 0).trans (show _ = some (.int .u64 a) from rfl)
  have d2 := (blk_cell ka 1).trans (show _ = some (.int .u64 b) from rfl)
  have HR5 := Lib.hid (And.intro hR5 hBB)
  clear HO106 HB hC1 hR5 hBB kg ka HP
  go_wp2_with fail
  refine (u_walk a b _).mono ?_
  rintro e w6 ⟨rfl, hb6⟩
  have HB6 := Lib.hid hb6
  clear hb6 d0 d1 d2
  go_wp2_with fail
  obtain ⟨hR5, hBB⟩ := HR5.out
  have ho := Kd.own_of_R (enc := Value.int .u8) (h1 := fun _ => rfl) hR5
  obtain ⟨g, cap, cur, rfl, hg, hh, hle, hmx, hsz, htk⟩ := own_open hR5 (by omega)
  refine (pbe_ok g _ cap a b h16 hle cur _ (by_on hh HB6.out) hsz).mono ?_
  rintro e w7 ⟨rfl, hh7, hb7⟩
  rw [← put16_true] at hh7
  have E7 := Lib.hid (And.intro hh7 (hBB.trans ((HB6.out.mono hBB.size).trans (hb7.mono hg))))
  have E8 := Lib.hid (And.intro hg (And.intro hle (And.intro hmx (And.intro hsz htk))))
  clear hh7 hb7 hBB HB6 hR5 HR5 ho hh hg hle hmx hsz htk
  go_wp2_with fail
  go_ret
  obtain ⟨hg, hle, hmx, hsz, htk⟩ := E8.out
  exact ⟨⟨g, cap, cur, rfl, hg, E7.out.1, hle, hmx, hsz, htk⟩, E7.out.2⟩
set_option maxHeartbeats 1000000 in
set_option maxRecDepth 100000 in
theorem clo_no_true (pa pb pg : Nat) (a b : Int) (A : Option Addr) (c : Nat) (l0 : List Int) (hm : l0.length ≤ 1048576) (h16 : l0.length < 16) (w : World) (hC : ∀ W, Below w.heap.size w W → Kd.C (Kd.int .u8) W A l0.length l0) (hpb : w.heap[pb]? = some (.cells #[.slice A l0.length c] 54 (0, 0))) (hpg : w.heap[pg]? = some (.cells #[.bool true] 4 (0, 0))) (hpa : w.heap[pa]? = some (.cells #[.int .u64 a, .int .u64 b] 24 (0, 0))) :
    Calls Try.prog 123 #[.pointer (some ⟨pb, 0, none⟩), .pointer (some ⟨pg, 0, none⟩), .pointer (some ⟨pa, 0, none⟩)] w fun e w' => (∃ pv, e = .panicked [{ v := .iface Try.prog.rt.boundsError pv, recovered := false }]) ∧ Below w.heap.size w w' := by
  have LM := Aside0.mk (And.intro hm hm)
  have HB := Aside0.mk (Below.refl w.heap.size w)
  have hC1 := Aside0.mk hC
  have HP := Lib.hid (And.intro hpb (And.intro hpg hpa))
  clear hm hC hpb hpg hpa
  go_enter Try.func123, Try.ntmps123
  go_upto_region 2 with (first | ((with_reducible refine gate_dst (N := 5) rfl ?_); refine Kd.R_lit (Kd.int .u8) _ 5 ?hg (N := 5) ?hd (xs := ([] : List Int)) (inner := []) (ok := fun _ => True) (okp := fun _ => True) ?hr ?hp (fun _ hk => hk) trivial (Below.refl _ _) (Nat.le_refl _) (by simp) ?_; (case hd => rfl); (case hg => rfl); (case hr => first | (go_simp; done) | (go_simp; rfl)); (case hp => exact (Reps.none _ _)); intro v102 w3 ho4 hb hg_ hnew_; clear hg_ hnew_; have n0_ : Aside0 (Kd.R (Kd.int .u8) 5 w3 w.heap.size (fun _ => True) v102 []) := Aside0.mk (Kd.R_lower ho4 (by have hq_ := HB.out.size; first | exact hq_ | (simp at hq_; omega) | (simp; done))); have n1_ := Aside0.mk (below_then HB.out (by have hq_ := HB.out.size; first | exact hq_ | (simp at hq_; omega) | (simp; done)) hb); clear HB; have HO103 := n0_; have HB := n1_; clear n0_ n1_; have c0 := (blk_cell (by_on HP.out.1 hb) 0).trans (show _ = some (.slice A l0.length c) from rfl); clear hb ho4) | ((with_reducible refine gate_builtin (b := .append) (xs := #[.tmp 5, .tmp 6]) rfl ?_); at_builtin; refine Kd.R_append_rows (Kd.int .u8) (w0 := w) w.heap.size rfl (.tmp 5) (.tmp 6) 54 5 (.int .u8 0) 1 rfl Try.underlying54 (by kernel_rfl) rfl (by decide) (by omega) v102 [] l0 _ _ _ (fun _ => True) (fun _ => False) rfl rfl ?aO ?aR (fun _ _ h => h) (fun _ h => h.elim) ?aF ?aB ?aS ?aL ?_; (case aR => exact (hC1.out _ HB.out)); (case aB => exact (by repeat (first | (with_reducible first | exact HB.out | apply below_alloc | apply pw_below_drewN | apply below_drew1) | exact HB.out))); (case aF => exact (fun _ _ => trivial)); (case aO => exact (by (with_reducible repeat (first | apply Kd.R_alloc | apply Kd.R_drewN | apply Kd.R_drew)); exact HO103.out)); (case aS => exact (by have hq_ := HB.out.size; first | exact hq_ | (simp at hq_; omega) | (simp; done))); (case aL => have := LM.out; simp; omega); intro v105 w5 ho hb hg hat; have n0_ := Aside0.mk hb; have n1_ := Aside0.mk ho; clear HB; clear HO103; have HB := n0_; have HO106 := n1_; clear n0_ n1_; clear ho hb hg hat))
  have hR5 := HO106.out
  rw [List.nil_append] at hR5
  have hBB := HB.out
  have kg := (hBB.block _ (blk_lt HP.out.2.1)).trans HP.out.2.1
  have ka := (hBB.block _ (blk_lt HP.out.2.2)).trans HP.out.2.2
  have d0 := (blk_cell kg 0).trans (show _ = some (.bool true) from rfl)
  have d1 := (blk_cell ka 0).trans (show _ = some (.int .u64 a) from rfl)
  have d2 := (blk_cell ka 1).trans (show _ = some (.int .u64 b) from rfl)
  have HR5 := Lib.hid (And.intro hR5 hBB)
  clear HO106 HB hC1 hR5 hBB kg ka HP
  go_wp2_with fail
  refine (u_walk a b _).mono ?_
  rintro e w6 ⟨rfl, hb6⟩
  have HB6 := Lib.hid hb6
  clear hb6 d0 d1 d2
  go_wp2_with fail
  obtain ⟨hR5, hBB⟩ := HR5.out
  have ho := Kd.own_of_R (enc := Value.int .u8) (h1 := fun _ => rfl) hR5
  have hBB6 := hBB.trans (HB6.out.mono hBB.size)
  rcases ho.2 with ⟨rfl, h0⟩ | ⟨g, cap, cur, rfl, hg, hh, hle, hmx, hsz, htk⟩
  · refine (pbe_no1 none 0 0 a b (by decide) _).mono ?_
    rintro e w7 ⟨⟨pv, rfl⟩, hb7⟩
    exact ⟨rfl, ⟨_, rfl⟩, hBB6.trans (hb7.mono hBB6.size)⟩
  · rw [Nat.mul_one] at hsz
    by_cases hc : cap < 8
    · refine (pbe_no1 _ _ cap a b hc _).mono ?_
      rintro e w7 ⟨⟨pv, rfl⟩, hb7⟩
      exact ⟨rfl, ⟨_, rfl⟩, hBB6.trans (hb7.mono hBB6.size)⟩
    · by_cases h8 : l0.length < 8
      · refine (pbe_no2 g _ cap a b (by omega) hle h8 cur _ (by_on hh HB6.out) hsz).mono ?_
        rintro e w7 ⟨⟨pv, rfl⟩, hb7⟩
        exact ⟨rfl, ⟨_, rfl⟩, hBB6.trans (hb7.mono hg)⟩
      · refine (pbe_no3 g _ cap a b (by omega) hle (by omega) h16 cur _ (by_on hh HB6.out) hsz).mono ?_
        rintro e w7 ⟨⟨pv, rfl⟩, hb7⟩
        exact ⟨rfl, ⟨_, rfl⟩, hBB6.trans (hb7.mono hg)⟩
set_option maxHeartbeats 1000000 in
set_option maxRecDepth 100000 in
theorem clo_ok_false (pa pb pg : Nat) (a b : Int) (A : Option Addr) (c : Nat) (l0 : List Int) (hm : l0.length ≤ 1048576) (h16 : 16 ≤ l0.length) (w : World) (hC : ∀ W, Below w.heap.size w W → Kd.C (Kd.int .u8) W A l0.length l0) (hpb : w.heap[pb]? = some (.cells #[.slice A l0.length c] 54 (0, 0))) (hpg : w.heap[pg]? = some (.cells #[.bool false] 4 (0, 0))) (hpa : w.heap[pa]? = some (.cells #[.int .u64 a, .int .u64 b] 24 (0, 0))) :
    Calls Try.prog 123 #[.pointer (some ⟨pb, 0, none⟩), .pointer (some ⟨pg, 0, none⟩), .pointer (some ⟨pa, 0, none⟩)] w fun e w' => (∃ g cap cur, e = .returned (.slice (some ⟨g, 0, none⟩) l0.length cap) ∧ w.heap.size ≤ g ∧ w'.heap[g]? = some (.cells (put16 false cur a b) 5 (0, 0)) ∧ l0.length ≤ cap ∧ cap ≤ maxLen ∧ cur.size = cap ∧ cur.toList.take l0.length = l0.map (Value.int .u8)) ∧ Below w.heap.size w w' := by
  have LM := Aside0.mk (And.intro hm hm)
  have HB := Aside0.mk (Below.refl w.heap.size w)
  have hC1 := Aside0.mk hC
  have HP := Lib.hid (And.intro hpb (And.intro hpg hpa))
  clear hm hC hpb hpg hpa
  go_enter Try.func123, Try.ntmps123
  go_upto_region 2 with (first | ((with_reducible refine gate_dst (N := 5) rfl ?_); refine Kd.R_lit (Kd.int .u8) _ 5 ?hg (N := 5) ?hd (xs := ([] : List Int)) (inner := []) (ok := fun _ => True) (okp := fun _ => True) ?hr ?hp (fun _ hk => hk) trivial (Below.refl _ _) (Nat.le_refl _) (by simp) ?_; (case hd => rfl); (case hg => rfl); (case hr => first | (go_simp; done) | (go_simp; rfl)); (case hp => exact (Reps.none _ _)); intro v102 w3 ho4 hb hg_ hnew_; clear hg_ hnew_; have n0_ : Aside0 (Kd.R (Kd.int .u8) 5 w3 w.heap.size (fun _ => True) v102 []) := Aside0.mk (Kd.R_lower ho4 (by have hq_ := HB.out.size; first | exact hq_ | (simp at hq_; omega) | (simp; done))); have n1_ := Aside0.mk (below_then HB.out (by have hq_ := HB.out.size; first | exact hq_ | (simp at hq_; omega) | (simp; done)) hb); clear HB; have HO103 := n0_; have HB := n1_; clear n0_ n1_; have c0 := (blk_cell (by_on HP.out.1 hb) 0).trans (show _ = some (.slice A l0.length c) from rfl); clear hb ho4) | ((with_reducible refine gate_builtin (b := .append) (xs := #[.tmp 5, .tmp 6]) rfl ?_); at_builtin; refine Kd.R_append_rows (Kd.int .u8) (w0 := w) w.heap.size rfl (.tmp 5) (.tmp 6) 54 5 (.int .u8 0) 1 rfl Try.underlying54 (by kernel_rfl) rfl (by decide) (by omega) v102 [] l0 _ _ _ (fun _ => True) (fun _ => False) rfl rfl ?aO ?aR (fun _ _ h => h) (fun _ h => h.elim) ?aF ?aB ?aS ?aL ?_; (case aR => exact (hC1.out _ HB.out)); (case aB => exact (by repeat (first | (with_reducible first | exact HB.out | apply below_alloc | apply pw_below_drewN | apply below_drew1) | exact HB.out))); (case aF => exact (fun _ _ => trivial)); (case aO => exact (by (with_reducible repeat (first | apply Kd.R_alloc | apply Kd.R_drewN | apply Kd.R_drew)); exact HO103.out)); (case aS => exact (by have hq_ := HB.out.size; first | exact hq_ | (simp at hq_; omega) | (simp; done))); (case aL => have := LM.out; simp; omega); intro v105 w5 ho hb hg hat; have n0_ := Aside0.mk hb; have n1_ := Aside0.mk ho; clear HB; clear HO103; have HB := n0_; have HO106 := n1_; clear n0_ n1_; clear ho hb hg hat))
  have hR5 := HO106.out
  rw [List.nil_append] at hR5
  have hBB := HB.out
  have kg := (hBB.block _ (blk_lt HP.out.2.1)).trans HP.out.2.1
  have ka := (hBB.block _ (blk_lt HP.out.2.2)).trans HP.out.2.2
  have d0 := (blk_cell kg 0).trans (show _ = some (.bool false) from rfl)
  have d1 := (blk_cell ka 0).trans (show _ = some (.int .u64 a) from rfl)
  have d2 := (blk_cell ka 1).trans (show _ = some (.int .u64 b) from rfl)
  have HR5 := Lib.hid (And.intro hR5 hBB)
  clear HO106 HB hC1 hR5 hBB kg ka HP
  go_wp2_with fail
  refine (u_walk a b _).mono ?_
  rintro e w6 ⟨rfl, hb6⟩
  have HB6 := Lib.hid hb6
  clear hb6 d0 d1 d2
  go_wp2_with fail
  obtain ⟨hR5, hBB⟩ := HR5.out
  have ho := Kd.own_of_R (enc := Value.int .u8) (h1 := fun _ => rfl) hR5
  obtain ⟨g, cap, cur, rfl, hg, hh, hle, hmx, hsz, htk⟩ := own_open hR5 (by omega)
  refine (pb_ok g _ cap a b h16 hle cur _ (by_on hh HB6.out) hsz).mono ?_
  rintro e w7 ⟨rfl, hh7, hb7⟩
  rw [← put16_false] at hh7
  have E7 := Lib.hid (And.intro hh7 (hBB.trans ((HB6.out.mono hBB.size).trans (hb7.mono hg))))
  have E8 := Lib.hid (And.intro hg (And.intro hle (And.intro hmx (And.intro hsz htk))))
  clear hh7 hb7 hBB HB6 hR5 HR5 ho hh hg hle hmx hsz htk
  go_wp2_with fail
  go_ret
  obtain ⟨hg, hle, hmx, hsz, htk⟩ := E8.out
  exact ⟨⟨g, cap, cur, rfl, hg, E7.out.1, hle, hmx, hsz, htk⟩, E7.out.2⟩
set_option maxHeartbeats 1000000 in
set_option maxRecDepth 100000 in
theorem clo_no_false (pa pb pg : Nat) (a b : Int) (A : Option Addr) (c : Nat) (l0 : List Int) (hm : l0.length ≤ 1048576) (h16 : l0.length < 16) (w : World) (hC : ∀ W, Below w.heap.size w W → Kd.C (Kd.int .u8) W A l0.length l0) (hpb : w.heap[pb]? = some (.cells #[.slice A l0.length c] 54 (0, 0))) (hpg : w.heap[pg]? = some (.cells #[.bool false] 4 (0, 0))) (hpa : w.heap[pa]? = some (.cells #[.int .u64 a, .int .u64 b] 24 (0, 0))) :
    Calls Try.prog 123 #[.pointer (some ⟨pb, 0, none⟩), .pointer (some ⟨pg, 0, none⟩), .pointer (some ⟨pa, 0, none⟩)] w fun e w' => (∃ pv, e = .panicked [{ v := .iface Try.prog.rt.boundsError pv, recovered := false }]) ∧ Below w.heap.size w w' := by
  have LM := Aside0.mk (And.intro hm hm)
  have HB := Aside0.mk (Below.refl w.heap.size w)
  have hC1 := Aside0.mk hC
  have HP := Lib.hid (And.intro hpb (And.intro hpg hpa))
  clear hm hC hpb hpg hpa
  go_enter Try.func123, Try.ntmps123
  go_upto_region 2 with (first | ((with_reducible refine gate_dst (N := 5) rfl ?_); refine Kd.R_lit (Kd.int .u8) _ 5 ?hg (N := 5) ?hd (xs := ([] : List Int)) (inner := []) (ok := fun _ => True) (okp := fun _ => True) ?hr ?hp (fun _ hk => hk) trivial (Below.refl _ _) (Nat.le_refl _) (by simp) ?_; (case hd => rfl); (case hg => rfl); (case hr => first | (go_simp; done) | (go_simp; rfl)); (case hp => exact (Reps.none _ _)); intro v102 w3 ho4 hb hg_ hnew_; clear hg_ hnew_; have n0_ : Aside0 (Kd.R (Kd.int .u8) 5 w3 w.heap.size (fun _ => True) v102 []) := Aside0.mk (Kd.R_lower ho4 (by have hq_ := HB.out.size; first | exact hq_ | (simp at hq_; omega) | (simp; done))); have n1_ := Aside0.mk (below_then HB.out (by have hq_ := HB.out.size; first | exact hq_ | (simp at hq_; omega) | (simp; done)) hb); clear HB; have HO103 := n0_; have HB := n1_; clear n0_ n1_; have c0 := (blk_cell (by_on HP.out.1 hb) 0).trans (show _ = some (.slice A l0.length c) from rfl); clear hb ho4) | ((with_reducible refine gate_builtin (b := .append) (xs := #[.tmp 5, .tmp 6]) rfl ?_); at_builtin; refine Kd.R_append_rows (Kd.int .u8) (w0 := w) w.heap.size rfl (.tmp 5) (.tmp 6) 54 5 (.int .u8 0) 1 rfl Try.underlying54 (by kernel_rfl) rfl (by decide) (by omega) v102 [] l0 _ _ _ (fun _ => True) (fun _ => False) rfl rfl ?aO ?aR (fun _ _ h => h) (fun _ h => h.elim) ?aF ?aB ?aS ?aL ?_; (case aR => exact (hC1.out _ HB.out)); (case aB => exact (by repeat (first | (with_reducible first | exact HB.out | apply below_alloc | apply pw_below_drewN | apply below_drew1) | exact HB.out))); (case aF => exact (fun _ _ => trivial)); (case aO => exact (by (with_reducible repeat (first | apply Kd.R_alloc | apply Kd.R_drewN | apply Kd.R_drew)); exact HO103.out)); (case aS => exact (by have hq_ := HB.out.size; first | exact hq_ | (simp at hq_; omega) | (simp; done))); (case aL => have := LM.out; simp; omega); intro v105 w5 ho hb hg hat; have n0_ := Aside0.mk hb; have n1_ := Aside0.mk ho; clear HB; clear HO103; have HB := n0_; have HO106 := n1_; clear n0_ n1_; clear ho hb hg hat))
  have hR5 := HO106.out
  rw [List.nil_append] at hR5
  have hBB := HB.out
  have kg := (hBB.block _ (blk_lt HP.out.2.1)).trans HP.out.2.1
  have ka := (hBB.block _ (blk_lt HP.out.2.2)).trans HP.out.2.2
  have d0 := (blk_cell kg 0).trans (show _ = some (.bool false) from rfl)
  have d1 := (blk_cell ka 0).trans (show _ = some (.int .u64 a) from rfl)
  have d2 := (blk_cell ka 1).trans (show _ = some (.int .u64 b) from rfl)
  have HR5 := Lib.hid (And.intro hR5 hBB)
  clear HO106 HB hC1 hR5 hBB kg ka HP
  go_wp2_with fail
  refine (u_walk a b _).mono ?_
  rintro e w6 ⟨rfl, hb6⟩
  have HB6 := Lib.hid hb6
  clear hb6 d0 d1 d2
  go_wp2_with fail
  obtain ⟨hR5, hBB⟩ := HR5.out
  have ho := Kd.own_of_R (enc := Value.int .u8) (h1 := fun _ => rfl) hR5
  have hBB6 := hBB.trans (HB6.out.mono hBB.size)
  rcases ho.2 with ⟨rfl, h0⟩ | ⟨g, cap, cur, rfl, hg, hh, hle, hmx, hsz, htk⟩
  · refine (pb_no1 none 0 0 a b (by decide) _).mono ?_
    rintro e w7 ⟨⟨pv, rfl⟩, hb7⟩
    exact ⟨rfl, ⟨_, rfl⟩, hBB6.trans (hb7.mono hBB6.size)⟩
  · rw [Nat.mul_one] at hsz
    by_cases hc : cap < 8
    · refine (pb_no1 _ _ cap a b hc _).mono ?_
      rintro e w7 ⟨⟨pv, rfl⟩, hb7⟩
      exact ⟨rfl, ⟨_, rfl⟩, hBB6.trans (hb7.mono hBB6.size)⟩
    · by_cases h8 : l0.length < 8
      · refine (pb_no2 g _ cap a b (by omega) hle h8 cur _ (by_on hh HB6.out) hsz).mono ?_
        rintro e w7 ⟨⟨pv, rfl⟩, hb7⟩
        exact ⟨rfl, ⟨_, rfl⟩, hBB6.trans (hb7.mono hg)⟩
      · refine (pb_no3 g _ cap a b (by omega) hle (by omega) h16 cur _ (by_on hh HB6.out) hsz).mono ?_
        rintro e w7 ⟨⟨pv, rfl⟩, hb7⟩
        exact ⟨rfl, ⟨_, rfl⟩, hBB6.trans (hb7.mono hg)⟩
theorem triedB_idle (p q : Addr) (w : World) :
    CallsD Try.prog 136 #[.pointer (some p), .pointer (some q)] .returning w fun e u' w' => e = .returned (.tuple #[]) ∧ u' = .returning ∧ w' = w := by
  refine callsD_of_wpS Try.func136 rfl fun c₀ cs hu => ?_
  apply wpS_seq
  apply wpS_region
  simp [wpOpsS, go_sem, recoverD, hu, Try.ntmps136, Exit.thenS]
  refine wpS_cond (t := false) (by simp [Act.eval, Array.replicate]) ?_
  simp only [Bool.false_eq_true, if_false]
  refine wpS_of_wp (wp_skip ?_)
  cases c₀
  simp_all [bodyPostS, results, Try.results136]
theorem triedB_catch (g : Nat) (y0 : Value) (y : Bool) (u : TypeId) (pv : Value) (older : List PanicEntry) (w : World)
    (hg : w.heap[g]? = some (.cells #[y0] 54 (0, 0))) (hh : w.heap[g + 1]? = some (.cells #[.bool y] 4 (0, 0))) :
    CallsD Try.prog 136 #[.pointer (some ⟨g, 0, none⟩), .pointer (some ⟨g + 1, 0, none⟩)] (.panicking ({ v := .iface u pv, recovered := false } :: older)) w fun e u' w' =>
      e = .returned (.tuple #[]) ∧ u' = .panicking ({ v := .iface u pv, recovered := true } :: older) ∧
      w'.heap[g]? = some (.cells #[.slice none 0 0] 54 (0, 0)) ∧ w'.heap[g + 1]? = some (.cells #[.bool false] 4 (0, 0)) ∧ Below g w w' := by
  have hp0 : w.cell? ⟨g, 0, none⟩ = some y0 := by rw [blk_cell hg]; rfl
  have hq : w.cell? ⟨g + 1, 0, none⟩ = some (.bool y) := by rw [blk_cell hh]; rfl
  have fp0 : w.frozen? ⟨g, 0, none⟩ = false := blk_frozen hg 0
  have fq : w.frozen? ⟨g + 1, 0, none⟩ = false := blk_frozen hh 0
  have lg := blk_lt hg
  have lh := blk_lt hh
  have HG := Lib.hid hg
  have HH := Lib.hid hh
  clear hg hh
  refine callsD_of_wpS Try.func136 rfl fun c₀ cs hu => ?_
  apply wpS_seq
  apply wpS_region
  simp [wpOpsS, go_sem, recoverD, hu, Try.ntmps136, Exit.thenS]
  refine wpS_cond (t := true) (by simp [Act.eval, Array.replicate]) ?_
  simp only [if_true]
  refine wpS_of_wp ?_
  simp [Array.replicate]
  go_wp2
  have k0 := (blk_set HG.out 0 (.slice none 0 0))
  have k1 := blk_far (p := ⟨g + 1, 0, none⟩) k0 (by simp) (.bool false)
  have k2 := (blk_far (p := ⟨g, 0, none⟩) HH.out (by simp) (.slice none 0 0))
  have k3 := blk_set k2 0 (.bool false)
  have f3 : Below g w (((w.setCell ⟨g, 0, none⟩ (.slice none 0 0)).setCell ⟨g + 1, 0, none⟩ (Value.bool false))) :=
    ((((Below.refl g w).setCell (p := ⟨g, 0, none⟩) (Nat.le_refl _) _).setCell (p := ⟨g + 1, 0, none⟩) (by simp) _))
  exact ⟨rfl, _, rfl, .tuple #[], results_none rfl _ _ _, rfl, rfl, k1, k3, f3⟩
/-- What tried answers: a row of n octets of its own, of which R holds; or nothing. -/
def tOut (t : Bool) (n : Nat) (R : Nat → Array Value → Prop) (base : Nat) (e : Ending) (w' : World) : Prop :=
  ((t = true ∧ ∃ g m cs, e = .returned (.tuple #[.slice (some ⟨g, 0, none⟩) n m, .bool true]) ∧ base ≤ g ∧ w'.heap[g]? = some (.cells cs 5 (0, 0)) ∧ R m cs) ∨ (t = false ∧ e = .returned (.tuple #[.slice none 0 0, .bool false])))
set_option maxHeartbeats 1000000 in
set_option maxRecDepth 100000 in
theorem triedB (fid : Nat) (caps : Array Value) (t : Bool) (n : Nat) (R : Nat → Array Value → Prop) (w : World)
    (hcf : ∀ (args : Array Value) (w : World), (callFunc fid args).run Try.prog w = .ok (.enter fid args) w)
    (hcl : Hid (∀ W : World, Below w.heap.size w W → Calls Try.prog fid caps W fun e W' => ((t = true ∧ ∃ g m cs, e = .returned (.slice (some ⟨g, 0, none⟩) n m) ∧ W.heap.size ≤ g ∧ W'.heap[g]? = some (.cells cs 5 (0, 0)) ∧ R m cs) ∨ (t = false ∧ ∃ pv, e = .panicked [{ v := .iface Try.prog.rt.boundsError pv, recovered := false }])) ∧ Below W.heap.size W W')) :
    Calls Try.prog 122 #[.func (.func fid) #[] caps] w fun e w' => tOut t n R w.heap.size e w' ∧ Below w.heap.size w w' := by
  have hmf : ∀ (fn : Fn) (first cap : Array Value) (w : World), (Instr.makeFunc fn first cap).run Try.prog w = .ok (.func fn first cap) w := fun _ _ _ _ => rfl
  go_enter_defers Try.func122, Try.ntmps122
  go_wp2_with fail
  refine (hcl.out _ (((Below.refl w.heap.size w).alloc (Nat.le_refl _) _).alloc (by simp) _)).mono ?_
  rintro e w1 ⟨ho, hb⟩
  have g0 : w1.heap[w.heap.size]? = some (.cells #[.slice none 0 0] 54 (0, 0)) := (hb.block _ (by simp; omega)).trans (blk_alloc (MapKept.heap_alloc w _).1 _)
  have g1 : w1.heap[w.heap.size + 1]? = some (.cells #[.bool false] 4 (0, 0)) := (hb.block _ (by simp)).trans (by have := (MapKept.heap_alloc (w.alloc (.cells #[.slice none 0 0] 54)) (Obj.cells #[Value.bool false] 4)).1; simpa using this)
  have B : Below w.heap.size w w1 := (((Below.refl w.heap.size w).alloc (Nat.le_refl _) _).alloc (by simp) _).trans (hb.mono (by simp; omega))
  have HB := Lib.hid B
  have G0 := Lib.hid g0
  have G1 := Lib.hid g1
  clear hb g0 g1 B
  obtain ⟨rfl, g, m, cs, rfl, hgW, hG, hRR⟩ | ⟨rfl, pv, rfl⟩ := ho
  · have hgW' : w.heap.size + 1 + 1 ≤ g := by simpa using hgW
    have KG := Lib.hid (And.intro hG (And.intro hgW' hRR))
    clear hG hgW hgW' hRR
    have c0 : w1.cell? ⟨w.heap.size, 0, none⟩ = some (.slice none 0 0) := by rw [blk_cell G0.out]; rfl
    have cb : w1.cell? ⟨w.heap.size + 1, 0, none⟩ = some (.bool false) := by rw [blk_cell G1.out]; rfl
    have z0 : w1.frozen? ⟨w.heap.size, 0, none⟩ = false := blk_frozen G0.out 0
    have zb : w1.frozen? ⟨w.heap.size + 1, 0, none⟩ = false := blk_frozen G1.out 0
    go_wp2
    have B := HB.out
    obtain ⟨hG, hgW, hRR⟩ := KG.out
    have kG := blk_far (p := ⟨w.heap.size + 1, 0, none⟩) (blk_far (p := ⟨w.heap.size, 0, none⟩) hG (by simp; omega) (.slice (some ⟨g, 0, none⟩) n m)) (by simp; omega) (.bool true)
    have k0 := blk_far (p := ⟨w.heap.size + 1, 0, none⟩) (blk_set G0.out 0 (.slice (some ⟨g, 0, none⟩) n m)) (by simp) (.bool true)
    have k1 := blk_set (blk_far (p := ⟨w.heap.size, 0, none⟩) G1.out (by simp) (.slice (some ⟨g, 0, none⟩) n m)) 0 (.bool true)
    refine leaves_cons (f := 136) (args := #[.pointer (some ⟨w.heap.size, 0, none⟩), .pointer (some ⟨w.heap.size + 1, 0, none⟩)]) (by simp) (by simp [go_sem]) ?_
    refine (triedB_idle _ _ _).mono ?_
    rintro e u' w'' ⟨rfl, rfl, rfl⟩
    refine ⟨.tuple #[(.slice (some ⟨g, 0, none⟩) n m), .bool true], ?_, Or.inl ⟨rfl, g, m, cs, rfl, by omega, kG, hRR⟩, (B.setCell (p := ⟨w.heap.size, 0, none⟩) (Nat.le_refl _) _).setCell (p := ⟨w.heap.size + 1, 0, none⟩) (by simp) _⟩
    have d0 := (blk_cell k0 0).trans (show _ = some (.slice (some ⟨g, 0, none⟩) n m) from rfl)
    have d1 := (blk_cell k1 0).trans (show _ = some (.bool true) from rfl)
    clear k0 k1 kG
    generalize (w1.setCell _ _).setCell _ _ = W at d0 d1 ⊢
    simp [results, Try.results122, go_sem, d0, d1]
  · refine leaves_cons (f := 136) (args := #[.pointer (some ⟨w.heap.size, 0, none⟩), .pointer (some ⟨w.heap.size + 1, 0, none⟩)]) (by simp) (by simp [go_sem]) ?_
    refine (triedB_catch w.heap.size (.slice none 0 0) false Try.prog.rt.boundsError pv [] w1 G0.out G1.out).mono ?_
    rintro e u' w2 ⟨rfl, rfl, k0, k1, hb2⟩
    refine ⟨.tuple #[(.slice none 0 0), .bool false], ?_, Or.inr ⟨rfl, rfl⟩, HB.out.trans hb2⟩
    have d0 := (blk_cell k0 0).trans (show _ = some (.slice none 0 0) from rfl)
    have d1 := (blk_cell k1 0).trans (show _ = some (.bool false) from rfl)
    clear k0 k1
    simp [results, Try.results122, go_sem, d0, d1]
end Go.Proofs.Ytiifnofghicnaaa.BAll
