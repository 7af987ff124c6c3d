/- impl.highway: a hash by a key: a key that has not 32 octets is refused, one of 32 noughts is taken. Printed by gen/hwrun.py. -/
import Derived.Test.YtnehminojlocoaaDoorHwNew
namespace Go.Proofs.YtnehminojlocoaaDoor.PAll
open Go.RowKit Go.Proofs.YtnehminojlocoaaDoorW.PrintWords Go.Proofs.YtnehminojlocoaaDoorW.PrintLast Go.Proofs.YtnehminojlocoaaDoorW.PrintMore
set_option linter.unusedVariables false
set_option linter.unusedSimpArgs false
theorem own_self (l : List Int) (h : l.length ≤ 100) : impl_own.f l = some l := by
  unfold impl_own.f
  rw [Option.bind_some, if_pos (by simp; omega)]
  rfl
theorem c_cell {W : World} {b : Addr} {l : List Int} (h : Kd.C (Kd.int .u8) W (some b) l.length l) (i : Nat) (x : Int) (hi : l[i]? = some x) : W.cell? (b.add i) = some (.int .u8 x) := by
  have hl : 0 < l.length := by
    rcases l with _ | ⟨y, t⟩
    · simp at hi
    · simp
  obtain ⟨b', e, q4⟩ := h.2.2 hl
  obtain rfl := Option.some.inj e
  obtain ⟨vs, q5, q6, q7⟩ := q4 i x hi
  have h := q7 0 (.int .u8 x) (by rw [q6]; rfl)
  rwa [show (i * (Kd.int .u8).sz + 0) = i by show i * 1 + 0 = i; omega] at h
set_option maxHeartbeats 4000000 in
set_option maxRecDepth 100000 in
theorem high8t_no (A : Option Addr) (c : Nat) (l : List Int) (w : World) (hC : Kd.C (Kd.int .u8) w A l.length l) (hl : l.length ≤ c) (h1 : l.length ≤ 100) (hn : l.length ≠ 32) (hg : GlobK w) :
    Calls Tryd.prog 15 #[.int .i64 8, .slice A l.length c, .bool true] w fun e w' => (∃ v, e = .returned (.tuple #[v, .bool false])) ∧ Below w.heap.size w w' := by
  have HH := Lib.hid (And.intro hC (And.intro hl (And.intro (own_self l h1) (And.intro hn hg))))
  clear hC hl h1 hn hg
  go_enter Tryd.func15, Tryd.ntmps15
  go_wp2_with fail
  obtain ⟨hC, hl, ho, hn, hg⟩ := id HH
  refine (impl_own.calls A c l l w hC hl ho).mono ?_
  rintro e w1 ⟨v0, rfl, hR, hb⟩
  obtain ⟨A1, c1, rfl⟩ := Kd.R_slice hR
  have HB := Lib.hid (And.intro hb (And.intro hn (hg.on hb)))
  clear hR hC hl ho hn hg HH hb
  go_wp2_with fail
  refine (dig64_no A1 _ c1 HB.out.2.1 _ HB.out.2.2).mono ?_
  rintro e w2 ⟨⟨pv, rfl⟩, hb2⟩
  have HB2 := Lib.hid (HB.out.1.trans (hb2.mono HB.out.1.size))
  clear hb2 HB
  go_wp2_with fail
  refine start_ (n := 5) (S := fun w' => True) (ds := []) #[false, false, false, false, false] (by kernel_rfl) rfl rfl trivial (fun hHeld => ?_)
  refine pure_ (i := 0) (N := some 72) (v := ?_) (a' := ?_) #[true, false, false, false, false] rfl rfl (by kernel_rfl) (fun _ _ _ h => h) (Or.inl ⟨by rfl, ?_⟩) ?_ ?_
  rotate_left
  · intro w'
    go_simp
    with_reducible rfl
  rotate_left
  · simp only [Act.put, List.setIfInBounds_toArray, List.set_cons_zero, List.set_cons_succ, i64_w, i32_w]
    rfl
  refine pure_ (i := 1) (N := some 73) (v := ?_) (a' := ?_) #[true, true, false, false, false] rfl rfl (by kernel_rfl) (fun _ _ _ h => h) (Or.inl ⟨by rfl, ?_⟩) ?_ ?_
  rotate_left
  · intro w'
    go_simp
    with_reducible rfl
  rotate_left
  · simp only [Act.put, List.setIfInBounds_toArray, List.set_cons_zero, List.set_cons_succ, i64_w, i32_w]
    rfl
  refine pure_ (i := 2) (N := some 74) (v := ?_) (a' := ?_) #[true, true, true, false, false] rfl rfl (by kernel_rfl) (fun _ _ _ h => h) (Or.inl ⟨by rfl, ?_⟩) ?_ ?_
  rotate_left
  · intro w'
    go_simp
    with_reducible rfl
  rotate_left
  · simp only [Act.put, List.setIfInBounds_toArray, List.set_cons_zero, List.set_cons_succ, i64_w, i32_w]
    rfl
  refine pure_ (i := 3) (N := some 6) (v := ?_) (a' := ?_) #[true, true, true, true, false] rfl rfl (by kernel_rfl) (fun _ _ _ h => h) (Or.inl ⟨by rfl, ?_⟩) ?_ ?_
  rotate_left
  · intro w'
    go_simp
    with_reducible rfl
  rotate_left
  · simp only [Act.put, List.setIfInBounds_toArray, List.set_cons_zero, List.set_cons_succ, i64_w, i32_w]
    rfl
  refine pure_ (i := 4) (N := some 7) (v := ?_) (a' := ?_) #[true, true, true, true, true] rfl rfl (by kernel_rfl) (fun _ _ _ h => h) (Or.inl ⟨by rfl, ?_⟩) ?_ ?_
  rotate_left
  · intro w'
    go_simp
    with_reducible rfl
  rotate_left
  · simp only [Act.put, List.setIfInBounds_toArray, List.set_cons_zero, List.set_cons_succ, i64_w, i32_w]
    rfl
  refine done_ (by kernel_rfl) ?_
  go_wp2_with fail
  go_ret2
  exact ⟨⟨_, rfl⟩, HB2.out.drew⟩
set_option maxHeartbeats 4000000 in
set_option maxRecDepth 100000 in
theorem high8t_yes (A : Option Addr) (c : Nat) (l : List Int) (w : World) (hC : Kd.C (Kd.int .u8) w A l.length l) (hl : l.length ≤ c) (h0 : l = List.replicate 32 0) :
    Calls Tryd.prog 15 #[.int .i64 8, .slice A l.length c, .bool true] w fun e w' => ∃ g, e = .returned (.tuple #[.iface 73 (.pointer (some ⟨g, 0, none⟩)), .bool true]) ∧ Dg 104 g w' ∧ Below w.heap.size w w' := by
  have h32 : l.length = 32 := by rw [h0, List.length_replicate]
  have hz : ∀ i, i < 32 → l[i]? = some 0 := fun i hi => by rw [h0, List.getElem?_replicate, if_pos hi]
  have HH := Lib.hid (And.intro hC (And.intro hl (And.intro (own_self l (by omega)) (And.intro h32 hz))))
  clear hC hl h0 h32 hz
  go_enter Tryd.func15, Tryd.ntmps15
  go_wp2_with fail
  obtain ⟨hC, hl, ho, h32, hz⟩ := id HH
  refine (impl_own.calls A c l l w hC hl ho).mono ?_
  rintro e w1 ⟨v0, rfl, hR, hb⟩
  obtain ⟨p, c1, rfl⟩ := Kd.R_slice1 hR (by omega)
  have hk : ∀ W, Below w1.heap.size w1 W → ∀ i, i < 32 → W.cell? (p.add i) = some (.int .u8 0) := fun W hW i hi => c_cell (Kd.R_reads' (Kd.R_below hR hW)).2.2 i 0 (hz i hi)
  simp only [h32]
  have HB := Lib.hid (And.intro hb hk)
  clear hR hC hl ho h32 hz HH hb hk
  go_wp2_with fail
  refine (dig64_yes p c1 _ HB.out.2).mono ?_
  rintro e w2 ⟨g, rfl, hd, hb2⟩
  have HB2 := Lib.hid (And.intro hd (HB.out.1.trans (hb2.mono HB.out.1.size)))
  clear hb2 HB hd
  go_wp2_with fail
  refine start_ (n := 5) (S := fun w' => True) (ds := []) #[false, false, false, false, false] (by kernel_rfl) rfl rfl trivial (fun hHeld => ?_)
  refine pure_ (i := 0) (N := some 72) (v := ?_) (a' := ?_) #[true, false, false, false, false] rfl rfl (by kernel_rfl) (fun _ _ _ h => h) (Or.inl ⟨by rfl, ?_⟩) ?_ ?_
  rotate_left
  · intro w'
    go_simp
    with_reducible rfl
  rotate_left
  · simp only [Act.put, List.setIfInBounds_toArray, List.set_cons_zero, List.set_cons_succ, i64_w, i32_w]
    rfl
  refine pure_ (i := 1) (N := some 73) (v := ?_) (a' := ?_) #[true, true, false, false, false] rfl rfl (by kernel_rfl) (fun _ _ _ h => h) (Or.inl ⟨by rfl, ?_⟩) ?_ ?_
  rotate_left
  · intro w'
    go_simp
    with_reducible rfl
  rotate_left
  · simp only [Act.put, List.setIfInBounds_toArray, List.set_cons_zero, List.set_cons_succ, i64_w, i32_w]
    rfl
  refine pure_ (i := 2) (N := some 74) (v := ?_) (a' := ?_) #[true, true, true, false, false] rfl rfl (by kernel_rfl) (fun _ _ _ h => h) (Or.inl ⟨by rfl, ?_⟩) ?_ ?_
  rotate_left
  · intro w'
    go_simp
    with_reducible rfl
  rotate_left
  · simp only [Act.put, List.setIfInBounds_toArray, List.set_cons_zero, List.set_cons_succ, i64_w, i32_w]
    rfl
  refine pure_ (i := 3) (N := some 6) (v := ?_) (a' := ?_) #[true, true, true, true, false] rfl rfl (by kernel_rfl) (fun _ _ _ h => h) (Or.inl ⟨by rfl, ?_⟩) ?_ ?_
  rotate_left
  · intro w'
    go_simp
    with_reducible rfl
  rotate_left
  · simp only [Act.put, List.setIfInBounds_toArray, List.set_cons_zero, List.set_cons_succ, i64_w, i32_w]
    rfl
  refine pure_ (i := 4) (N := some 7) (v := ?_) (a' := ?_) #[true, true, true, true, true] rfl rfl (by kernel_rfl) (fun _ _ _ h => h) (Or.inl ⟨by rfl, ?_⟩) ?_ ?_
  rotate_left
  · intro w'
    go_simp
    with_reducible rfl
  rotate_left
  · simp only [Act.put, List.setIfInBounds_toArray, List.set_cons_zero, List.set_cons_succ, i64_w, i32_w]
    rfl
  refine done_ (by kernel_rfl) ?_
  go_wp2_with fail
  go_ret2
  exact ⟨_, rfl, HB2.out.1.drew, HB2.out.2.drew⟩
set_option maxHeartbeats 4000000 in
set_option maxRecDepth 100000 in
theorem high8f_no (A : Option Addr) (c : Nat) (l : List Int) (w : World) (hC : Kd.C (Kd.int .u8) w A l.length l) (hl : l.length ≤ c) (h1 : l.length ≤ 100) (hn : l.length ≠ 32) (hg : GlobK w) :
    Calls Tryd.prog 15 #[.int .i64 8, .slice A l.length c, .bool false] w fun e w' => (∃ v, e = .returned (.tuple #[v, .bool false])) ∧ Below w.heap.size w w' := by
  have HH := Lib.hid (And.intro hC (And.intro hl (And.intro (own_self l h1) (And.intro hn hg))))
  clear hC hl h1 hn hg
  go_enter Tryd.func15, Tryd.ntmps15
  go_wp2_with fail
  obtain ⟨hC, hl, ho, hn, hg⟩ := id HH
  refine (impl_own.calls A c l l w hC hl ho).mono ?_
  rintro e w1 ⟨v0, rfl, hR, hb⟩
  obtain ⟨A1, c1, rfl⟩ := Kd.R_slice hR
  have HB := Lib.hid (And.intro hb (And.intro hn (hg.on hb)))
  clear hR hC hl ho hn hg HH hb
  go_wp2_with fail
  refine (new64_no A1 _ c1 HB.out.2.1 _ HB.out.2.2).mono ?_
  rintro e w2 ⟨⟨pv, rfl⟩, hb2⟩
  have HB2 := Lib.hid (HB.out.1.trans (hb2.mono HB.out.1.size))
  clear hb2 HB
  go_wp2_with fail
  refine start_ (n := 5) (S := fun w' => True) (ds := []) #[false, false, false, false, false] (by kernel_rfl) rfl rfl trivial (fun hHeld => ?_)
  refine pure_ (i := 0) (N := some 72) (v := ?_) (a' := ?_) #[true, false, false, false, false] rfl rfl (by kernel_rfl) (fun _ _ _ h => h) (Or.inl ⟨by rfl, ?_⟩) ?_ ?_
  rotate_left
  · intro w'
    go_simp
    with_reducible rfl
  rotate_left
  · simp only [Act.put, List.setIfInBounds_toArray, List.set_cons_zero, List.set_cons_succ, i64_w, i32_w]
    rfl
  refine pure_ (i := 1) (N := some 73) (v := ?_) (a' := ?_) #[true, true, false, false, false] rfl rfl (by kernel_rfl) (fun _ _ _ h => h) (Or.inl ⟨by rfl, ?_⟩) ?_ ?_
  rotate_left
  · intro w'
    go_simp
    with_reducible rfl
  rotate_left
  · simp only [Act.put, List.setIfInBounds_toArray, List.set_cons_zero, List.set_cons_succ, i64_w, i32_w]
    rfl
  refine pure_ (i := 2) (N := some 74) (v := ?_) (a' := ?_) #[true, true, true, false, false] rfl rfl (by kernel_rfl) (fun _ _ _ h => h) (Or.inl ⟨by rfl, ?_⟩) ?_ ?_
  rotate_left
  · intro w'
    go_simp
    with_reducible rfl
  rotate_left
  · simp only [Act.put, List.setIfInBounds_toArray, List.set_cons_zero, List.set_cons_succ, i64_w, i32_w]
    rfl
  refine pure_ (i := 3) (N := some 6) (v := ?_) (a' := ?_) #[true, true, true, true, false] rfl rfl (by kernel_rfl) (fun _ _ _ h => h) (Or.inl ⟨by rfl, ?_⟩) ?_ ?_
  rotate_left
  · intro w'
    go_simp
    with_reducible rfl
  rotate_left
  · simp only [Act.put, List.setIfInBounds_toArray, List.set_cons_zero, List.set_cons_succ, i64_w, i32_w]
    rfl
  refine pure_ (i := 4) (N := some 7) (v := ?_) (a' := ?_) #[true, true, true, true, true] rfl rfl (by kernel_rfl) (fun _ _ _ h => h) (Or.inl ⟨by rfl, ?_⟩) ?_ ?_
  rotate_left
  · intro w'
    go_simp
    with_reducible rfl
  rotate_left
  · simp only [Act.put, List.setIfInBounds_toArray, List.set_cons_zero, List.set_cons_succ, i64_w, i32_w]
    rfl
  refine done_ (by kernel_rfl) ?_
  go_wp2_with fail
  go_ret2
  exact ⟨⟨_, rfl⟩, HB2.out.drew⟩
set_option maxHeartbeats 4000000 in
set_option maxRecDepth 100000 in
theorem high8f_yes (A : Option Addr) (c : Nat) (l : List Int) (w : World) (hC : Kd.C (Kd.int .u8) w A l.length l) (hl : l.length ≤ c) (h0 : l = List.replicate 32 0) :
    Calls Tryd.prog 15 #[.int .i64 8, .slice A l.length c, .bool false] w fun e w' => ∃ g, e = .returned (.tuple #[.iface 73 (.pointer (some ⟨g, 0, none⟩)), .bool true]) ∧ Dg 104 g w' ∧ Below w.heap.size w w' := by
  have h32 : l.length = 32 := by rw [h0, List.length_replicate]
  have hz : ∀ i, i < 32 → l[i]? = some 0 := fun i hi => by rw [h0, List.getElem?_replicate, if_pos hi]
  have HH := Lib.hid (And.intro hC (And.intro hl (And.intro (own_self l (by omega)) (And.intro h32 hz))))
  clear hC hl h0 h32 hz
  go_enter Tryd.func15, Tryd.ntmps15
  go_wp2_with fail
  obtain ⟨hC, hl, ho, h32, hz⟩ := id HH
  refine (impl_own.calls A c l l w hC hl ho).mono ?_
  rintro e w1 ⟨v0, rfl, hR, hb⟩
  obtain ⟨p, c1, rfl⟩ := Kd.R_slice1 hR (by omega)
  have hk : ∀ W, Below w1.heap.size w1 W → ∀ i, i < 32 → W.cell? (p.add i) = some (.int .u8 0) := fun W hW i hi => c_cell (Kd.R_reads' (Kd.R_below hR hW)).2.2 i 0 (hz i hi)
  simp only [h32]
  have HB := Lib.hid (And.intro hb hk)
  clear hR hC hl ho h32 hz HH hb hk
  go_wp2_with fail
  refine (new64_yes p c1 _ HB.out.2).mono ?_
  rintro e w2 ⟨g, rfl, hd, hb2⟩
  have HB2 := Lib.hid (And.intro hd (HB.out.1.trans (hb2.mono HB.out.1.size)))
  clear hb2 HB hd
  go_wp2_with fail
  refine start_ (n := 5) (S := fun w' => True) (ds := []) #[false, false, false, false, false] (by kernel_rfl) rfl rfl trivial (fun hHeld => ?_)
  refine pure_ (i := 0) (N := some 72) (v := ?_) (a' := ?_) #[true, false, false, false, false] rfl rfl (by kernel_rfl) (fun _ _ _ h => h) (Or.inl ⟨by rfl, ?_⟩) ?_ ?_
  rotate_left
  · intro w'
    go_simp
    with_reducible rfl
  rotate_left
  · simp only [Act.put, List.setIfInBounds_toArray, List.set_cons_zero, List.set_cons_succ, i64_w, i32_w]
    rfl
  refine pure_ (i := 1) (N := some 73) (v := ?_) (a' := ?_) #[true, true, false, false, false] rfl rfl (by kernel_rfl) (fun _ _ _ h => h) (Or.inl ⟨by rfl, ?_⟩) ?_ ?_
  rotate_left
  · intro w'
    go_simp
    with_reducible rfl
  rotate_left
  · simp only [Act.put, List.setIfInBounds_toArray, List.set_cons_zero, List.set_cons_succ, i64_w, i32_w]
    rfl
  refine pure_ (i := 2) (N := some 74) (v := ?_) (a' := ?_) #[true, true, true, false, false] rfl rfl (by kernel_rfl) (fun _ _ _ h => h) (Or.inl ⟨by rfl, ?_⟩) ?_ ?_
  rotate_left
  · intro w'
    go_simp
    with_reducible rfl
  rotate_left
  · simp only [Act.put, List.setIfInBounds_toArray, List.set_cons_zero, List.set_cons_succ, i64_w, i32_w]
    rfl
  refine pure_ (i := 3) (N := some 6) (v := ?_) (a' := ?_) #[true, true, true, true, false] rfl rfl (by kernel_rfl) (fun _ _ _ h => h) (Or.inl ⟨by rfl, ?_⟩) ?_ ?_
  rotate_left
  · intro w'
    go_simp
    with_reducible rfl
  rotate_left
  · simp only [Act.put, List.setIfInBounds_toArray, List.set_cons_zero, List.set_cons_succ, i64_w, i32_w]
    rfl
  refine pure_ (i := 4) (N := some 7) (v := ?_) (a' := ?_) #[true, true, true, true, true] rfl rfl (by kernel_rfl) (fun _ _ _ h => h) (Or.inl ⟨by rfl, ?_⟩) ?_ ?_
  rotate_left
  · intro w'
    go_simp
    with_reducible rfl
  rotate_left
  · simp only [Act.put, List.setIfInBounds_toArray, List.set_cons_zero, List.set_cons_succ, i64_w, i32_w]
    rfl
  refine done_ (by kernel_rfl) ?_
  go_wp2_with fail
  go_ret2
  exact ⟨_, rfl, HB2.out.1.drew, HB2.out.2.drew⟩
set_option maxHeartbeats 4000000 in
set_option maxRecDepth 100000 in
theorem high16t_no (A : Option Addr) (c : Nat) (l : List Int) (w : World) (hC : Kd.C (Kd.int .u8) w A l.length l) (hl : l.length ≤ c) (h1 : l.length ≤ 100) (hn : l.length ≠ 32) (hg : GlobK w) :
    Calls Tryd.prog 15 #[.int .i64 16, .slice A l.length c, .bool true] w fun e w' => (∃ v, e = .returned (.tuple #[v, .bool false])) ∧ Below w.heap.size w w' := by
  have HH := Lib.hid (And.intro hC (And.intro hl (And.intro (own_self l h1) (And.intro hn hg))))
  clear hC hl h1 hn hg
  go_enter Tryd.func15, Tryd.ntmps15
  go_wp2_with fail
  obtain ⟨hC, hl, ho, hn, hg⟩ := id HH
  refine (impl_own.calls A c l l w hC hl ho).mono ?_
  rintro e w1 ⟨v0, rfl, hR, hb⟩
  obtain ⟨A1, c1, rfl⟩ := Kd.R_slice hR
  have HB := Lib.hid (And.intro hb (And.intro hn (hg.on hb)))
  clear hR hC hl ho hn hg HH hb
  go_wp2_with fail
  refine (dig128_no A1 _ c1 HB.out.2.1 _ HB.out.2.2).mono ?_
  rintro e w2 ⟨⟨pv, rfl⟩, hb2⟩
  have HB2 := Lib.hid (HB.out.1.trans (hb2.mono HB.out.1.size))
  clear hb2 HB
  go_wp2_with fail
  refine start_ (n := 5) (S := fun w' => True) (ds := []) #[false, false, false, false, false] (by kernel_rfl) rfl rfl trivial (fun hHeld => ?_)
  refine pure_ (i := 0) (N := some 72) (v := ?_) (a' := ?_) #[true, false, false, false, false] rfl rfl (by kernel_rfl) (fun _ _ _ h => h) (Or.inl ⟨by rfl, ?_⟩) ?_ ?_
  rotate_left
  · intro w'
    go_simp
    with_reducible rfl
  rotate_left
  · simp only [Act.put, List.setIfInBounds_toArray, List.set_cons_zero, List.set_cons_succ, i64_w, i32_w]
    rfl
  refine pure_ (i := 1) (N := some 73) (v := ?_) (a' := ?_) #[true, true, false, false, false] rfl rfl (by kernel_rfl) (fun _ _ _ h => h) (Or.inl ⟨by rfl, ?_⟩) ?_ ?_
  rotate_left
  · intro w'
    go_simp
    with_reducible rfl
  rotate_left
  · simp only [Act.put, List.setIfInBounds_toArray, List.set_cons_zero, List.set_cons_succ, i64_w, i32_w]
    rfl
  refine pure_ (i := 2) (N := some 74) (v := ?_) (a' := ?_) #[true, true, true, false, false] rfl rfl (by kernel_rfl) (fun _ _ _ h => h) (Or.inl ⟨by rfl, ?_⟩) ?_ ?_
  rotate_left
  · intro w'
    go_simp
    with_reducible rfl
  rotate_left
  · simp only [Act.put, List.setIfInBounds_toArray, List.set_cons_zero, List.set_cons_succ, i64_w, i32_w]
    rfl
  refine pure_ (i := 3) (N := some 6) (v := ?_) (a' := ?_) #[true, true, true, true, false] rfl rfl (by kernel_rfl) (fun _ _ _ h => h) (Or.inl ⟨by rfl, ?_⟩) ?_ ?_
  rotate_left
  · intro w'
    go_simp
    with_reducible rfl
  rotate_left
  · simp only [Act.put, List.setIfInBounds_toArray, List.set_cons_zero, List.set_cons_succ, i64_w, i32_w]
    rfl
  refine pure_ (i := 4) (N := some 7) (v := ?_) (a' := ?_) #[true, true, true, true, true] rfl rfl (by kernel_rfl) (fun _ _ _ h => h) (Or.inl ⟨by rfl, ?_⟩) ?_ ?_
  rotate_left
  · intro w'
    go_simp
    with_reducible rfl
  rotate_left
  · simp only [Act.put, List.setIfInBounds_toArray, List.set_cons_zero, List.set_cons_succ, i64_w, i32_w]
    rfl
  refine done_ (by kernel_rfl) ?_
  go_wp2_with fail
  go_ret2
  exact ⟨⟨_, rfl⟩, HB2.out.drew⟩
set_option maxHeartbeats 4000000 in
set_option maxRecDepth 100000 in
theorem high16t_yes (A : Option Addr) (c : Nat) (l : List Int) (w : World) (hC : Kd.C (Kd.int .u8) w A l.length l) (hl : l.length ≤ c) (h0 : l = List.replicate 32 0) :
    Calls Tryd.prog 15 #[.int .i64 16, .slice A l.length c, .bool true] w fun e w' => ∃ g, e = .returned (.tuple #[.iface 80 (.pointer (some ⟨g, 0, none⟩)), .bool true]) ∧ Dg 102 g w' ∧ Below w.heap.size w w' := by
  have h32 : l.length = 32 := by rw [h0, List.length_replicate]
  have hz : ∀ i, i < 32 → l[i]? = some 0 := fun i hi => by rw [h0, List.getElem?_replicate, if_pos hi]
  have HH := Lib.hid (And.intro hC (And.intro hl (And.intro (own_self l (by omega)) (And.intro h32 hz))))
  clear hC hl h0 h32 hz
  go_enter Tryd.func15, Tryd.ntmps15
  go_wp2_with fail
  obtain ⟨hC, hl, ho, h32, hz⟩ := id HH
  refine (impl_own.calls A c l l w hC hl ho).mono ?_
  rintro e w1 ⟨v0, rfl, hR, hb⟩
  obtain ⟨p, c1, rfl⟩ := Kd.R_slice1 hR (by omega)
  have hk : ∀ W, Below w1.heap.size w1 W → ∀ i, i < 32 → W.cell? (p.add i) = some (.int .u8 0) := fun W hW i hi => c_cell (Kd.R_reads' (Kd.R_below hR hW)).2.2 i 0 (hz i hi)
  simp only [h32]
  have HB := Lib.hid (And.intro hb hk)
  clear hR hC hl ho h32 hz HH hb hk
  go_wp2_with fail
  refine (dig128_yes p c1 _ HB.out.2).mono ?_
  rintro e w2 ⟨g, rfl, hd, hb2⟩
  have HB2 := Lib.hid (And.intro hd (HB.out.1.trans (hb2.mono HB.out.1.size)))
  clear hb2 HB hd
  go_wp2_with fail
  refine start_ (n := 5) (S := fun w' => True) (ds := []) #[false, false, false, false, false] (by kernel_rfl) rfl rfl trivial (fun hHeld => ?_)
  refine pure_ (i := 0) (N := some 72) (v := ?_) (a' := ?_) #[true, false, false, false, false] rfl rfl (by kernel_rfl) (fun _ _ _ h => h) (Or.inl ⟨by rfl, ?_⟩) ?_ ?_
  rotate_left
  · intro w'
    go_simp
    with_reducible rfl
  rotate_left
  · simp only [Act.put, List.setIfInBounds_toArray, List.set_cons_zero, List.set_cons_succ, i64_w, i32_w]
    rfl
  refine pure_ (i := 1) (N := some 73) (v := ?_) (a' := ?_) #[true, true, false, false, false] rfl rfl (by kernel_rfl) (fun _ _ _ h => h) (Or.inl ⟨by rfl, ?_⟩) ?_ ?_
  rotate_left
  · intro w'
    go_simp
    with_reducible rfl
  rotate_left
  · simp only [Act.put, List.setIfInBounds_toArray, List.set_cons_zero, List.set_cons_succ, i64_w, i32_w]
    rfl
  refine pure_ (i := 2) (N := some 74) (v := ?_) (a' := ?_) #[true, true, true, false, false] rfl rfl (by kernel_rfl) (fun _ _ _ h => h) (Or.inl ⟨by rfl, ?_⟩) ?_ ?_
  rotate_left
  · intro w'
    go_simp
    with_reducible rfl
  rotate_left
  · simp only [Act.put, List.setIfInBounds_toArray, List.set_cons_zero, List.set_cons_succ, i64_w, i32_w]
    rfl
  refine pure_ (i := 3) (N := some 6) (v := ?_) (a' := ?_) #[true, true, true, true, false] rfl rfl (by kernel_rfl) (fun _ _ _ h => h) (Or.inl ⟨by rfl, ?_⟩) ?_ ?_
  rotate_left
  · intro w'
    go_simp
    with_reducible rfl
  rotate_left
  · simp only [Act.put, List.setIfInBounds_toArray, List.set_cons_zero, List.set_cons_succ, i64_w, i32_w]
    rfl
  refine pure_ (i := 4) (N := some 7) (v := ?_) (a' := ?_) #[true, true, true, true, true] rfl rfl (by kernel_rfl) (fun _ _ _ h => h) (Or.inl ⟨by rfl, ?_⟩) ?_ ?_
  rotate_left
  · intro w'
    go_simp
    with_reducible rfl
  rotate_left
  · simp only [Act.put, List.setIfInBounds_toArray, List.set_cons_zero, List.set_cons_succ, i64_w, i32_w]
    rfl
  refine done_ (by kernel_rfl) ?_
  go_wp2_with fail
  go_ret2
  exact ⟨_, rfl, HB2.out.1.drew, HB2.out.2.drew⟩
set_option maxHeartbeats 4000000 in
set_option maxRecDepth 100000 in
theorem high16f_no (A : Option Addr) (c : Nat) (l : List Int) (w : World) (hC : Kd.C (Kd.int .u8) w A l.length l) (hl : l.length ≤ c) (h1 : l.length ≤ 100) (hn : l.length ≠ 32) (hg : GlobK w) :
    Calls Tryd.prog 15 #[.int .i64 16, .slice A l.length c, .bool false] w fun e w' => (∃ v, e = .returned (.tuple #[v, .bool false])) ∧ Below w.heap.size w w' := by
  have HH := Lib.hid (And.intro hC (And.intro hl (And.intro (own_self l h1) (And.intro hn hg))))
  clear hC hl h1 hn hg
  go_enter Tryd.func15, Tryd.ntmps15
  go_wp2_with fail
  obtain ⟨hC, hl, ho, hn, hg⟩ := id HH
  refine (impl_own.calls A c l l w hC hl ho).mono ?_
  rintro e w1 ⟨v0, rfl, hR, hb⟩
  obtain ⟨A1, c1, rfl⟩ := Kd.R_slice hR
  have HB := Lib.hid (And.intro hb (And.intro hn (hg.on hb)))
  clear hR hC hl ho hn hg HH hb
  go_wp2_with fail
  refine (new128_no A1 _ c1 HB.out.2.1 _ HB.out.2.2).mono ?_
  rintro e w2 ⟨⟨pv, rfl⟩, hb2⟩
  have HB2 := Lib.hid (HB.out.1.trans (hb2.mono HB.out.1.size))
  clear hb2 HB
  go_wp2_with fail
  refine start_ (n := 5) (S := fun w' => True) (ds := []) #[false, false, false, false, false] (by kernel_rfl) rfl rfl trivial (fun hHeld => ?_)
  refine pure_ (i := 0) (N := some 72) (v := ?_) (a' := ?_) #[true, false, false, false, false] rfl rfl (by kernel_rfl) (fun _ _ _ h => h) (Or.inl ⟨by rfl, ?_⟩) ?_ ?_
  rotate_left
  · intro w'
    go_simp
    with_reducible rfl
  rotate_left
  · simp only [Act.put, List.setIfInBounds_toArray, List.set_cons_zero, List.set_cons_succ, i64_w, i32_w]
    rfl
  refine pure_ (i := 1) (N := some 73) (v := ?_) (a' := ?_) #[true, true, false, false, false] rfl rfl (by kernel_rfl) (fun _ _ _ h => h) (Or.inl ⟨by rfl, ?_⟩) ?_ ?_
  rotate_left
  · intro w'
    go_simp
    with_reducible rfl
  rotate_left
  · simp only [Act.put, List.setIfInBounds_toArray, List.set_cons_zero, List.set_cons_succ, i64_w, i32_w]
    rfl
  refine pure_ (i := 2) (N := some 74) (v := ?_) (a' := ?_) #[true, true, true, false, false] rfl rfl (by kernel_rfl) (fun _ _ _ h => h) (Or.inl ⟨by rfl, ?_⟩) ?_ ?_
  rotate_left
  · intro w'
    go_simp
    with_reducible rfl
  rotate_left
  · simp only [Act.put, List.setIfInBounds_toArray, List.set_cons_zero, List.set_cons_succ, i64_w, i32_w]
    rfl
  refine pure_ (i := 3) (N := some 6) (v := ?_) (a' := ?_) #[true, true, true, true, false] rfl rfl (by kernel_rfl) (fun _ _ _ h => h) (Or.inl ⟨by rfl, ?_⟩) ?_ ?_
  rotate_left
  · intro w'
    go_simp
    with_reducible rfl
  rotate_left
  · simp only [Act.put, List.setIfInBounds_toArray, List.set_cons_zero, List.set_cons_succ, i64_w, i32_w]
    rfl
  refine pure_ (i := 4) (N := some 7) (v := ?_) (a' := ?_) #[true, true, true, true, true] rfl rfl (by kernel_rfl) (fun _ _ _ h => h) (Or.inl ⟨by rfl, ?_⟩) ?_ ?_
  rotate_left
  · intro w'
    go_simp
    with_reducible rfl
  rotate_left
  · simp only [Act.put, List.setIfInBounds_toArray, List.set_cons_zero, List.set_cons_succ, i64_w, i32_w]
    rfl
  refine done_ (by kernel_rfl) ?_
  go_wp2_with fail
  go_ret2
  exact ⟨⟨_, rfl⟩, HB2.out.drew⟩
set_option maxHeartbeats 4000000 in
set_option maxRecDepth 100000 in
theorem high16f_yes (A : Option Addr) (c : Nat) (l : List Int) (w : World) (hC : Kd.C (Kd.int .u8) w A l.length l) (hl : l.length ≤ c) (h0 : l = List.replicate 32 0) :
    Calls Tryd.prog 15 #[.int .i64 16, .slice A l.length c, .bool false] w fun e w' => ∃ g, e = .returned (.tuple #[.iface 80 (.pointer (some ⟨g, 0, none⟩)), .bool true]) ∧ Dg 102 g w' ∧ Below w.heap.size w w' := by
  have h32 : l.length = 32 := by rw [h0, List.length_replicate]
  have hz : ∀ i, i < 32 → l[i]? = some 0 := fun i hi => by rw [h0, List.getElem?_replicate, if_pos hi]
  have HH := Lib.hid (And.intro hC (And.intro hl (And.intro (own_self l (by omega)) (And.intro h32 hz))))
  clear hC hl h0 h32 hz
  go_enter Tryd.func15, Tryd.ntmps15
  go_wp2_with fail
  obtain ⟨hC, hl, ho, h32, hz⟩ := id HH
  refine (impl_own.calls A c l l w hC hl ho).mono ?_
  rintro e w1 ⟨v0, rfl, hR, hb⟩
  obtain ⟨p, c1, rfl⟩ := Kd.R_slice1 hR (by omega)
  have hk : ∀ W, Below w1.heap.size w1 W → ∀ i, i < 32 → W.cell? (p.add i) = some (.int .u8 0) := fun W hW i hi => c_cell (Kd.R_reads' (Kd.R_below hR hW)).2.2 i 0 (hz i hi)
  simp only [h32]
  have HB := Lib.hid (And.intro hb hk)
  clear hR hC hl ho h32 hz HH hb hk
  go_wp2_with fail
  refine (new128_yes p c1 _ HB.out.2).mono ?_
  rintro e w2 ⟨g, rfl, hd, hb2⟩
  have HB2 := Lib.hid (And.intro hd (HB.out.1.trans (hb2.mono HB.out.1.size)))
  clear hb2 HB hd
  go_wp2_with fail
  refine start_ (n := 5) (S := fun w' => True) (ds := []) #[false, false, false, false, false] (by kernel_rfl) rfl rfl trivial (fun hHeld => ?_)
  refine pure_ (i := 0) (N := some 72) (v := ?_) (a' := ?_) #[true, false, false, false, false] rfl rfl (by kernel_rfl) (fun _ _ _ h => h) (Or.inl ⟨by rfl, ?_⟩) ?_ ?_
  rotate_left
  · intro w'
    go_simp
    with_reducible rfl
  rotate_left
  · simp only [Act.put, List.setIfInBounds_toArray, List.set_cons_zero, List.set_cons_succ, i64_w, i32_w]
    rfl
  refine pure_ (i := 1) (N := some 73) (v := ?_) (a' := ?_) #[true, true, false, false, false] rfl rfl (by kernel_rfl) (fun _ _ _ h => h) (Or.inl ⟨by rfl, ?_⟩) ?_ ?_
  rotate_left
  · intro w'
    go_simp
    with_reducible rfl
  rotate_left
  · simp only [Act.put, List.setIfInBounds_toArray, List.set_cons_zero, List.set_cons_succ, i64_w, i32_w]
    rfl
  refine pure_ (i := 2) (N := some 74) (v := ?_) (a' := ?_) #[true, true, true, false, false] rfl rfl (by kernel_rfl) (fun _ _ _ h => h) (Or.inl ⟨by rfl, ?_⟩) ?_ ?_
  rotate_left
  · intro w'
    go_simp
    with_reducible rfl
  rotate_left
  · simp only [Act.put, List.setIfInBounds_toArray, List.set_cons_zero, List.set_cons_succ, i64_w, i32_w]
    rfl
  refine pure_ (i := 3) (N := some 6) (v := ?_) (a' := ?_) #[true, true, true, true, false] rfl rfl (by kernel_rfl) (fun _ _ _ h => h) (Or.inl ⟨by rfl, ?_⟩) ?_ ?_
  rotate_left
  · intro w'
    go_simp
    with_reducible rfl
  rotate_left
  · simp only [Act.put, List.setIfInBounds_toArray, List.set_cons_zero, List.set_cons_succ, i64_w, i32_w]
    rfl
  refine pure_ (i := 4) (N := some 7) (v := ?_) (a' := ?_) #[true, true, true, true, true] rfl rfl (by kernel_rfl) (fun _ _ _ h => h) (Or.inl ⟨by rfl, ?_⟩) ?_ ?_
  rotate_left
  · intro w'
    go_simp
    with_reducible rfl
  rotate_left
  · simp only [Act.put, List.setIfInBounds_toArray, List.set_cons_zero, List.set_cons_succ, i64_w, i32_w]
    rfl
  refine done_ (by kernel_rfl) ?_
  go_wp2_with fail
  go_ret2
  exact ⟨_, rfl, HB2.out.1.drew, HB2.out.2.drew⟩
set_option maxHeartbeats 4000000 in
set_option maxRecDepth 100000 in
theorem high32t_no (A : Option Addr) (c : Nat) (l : List Int) (w : World) (hC : Kd.C (Kd.int .u8) w A l.length l) (hl : l.length ≤ c) (h1 : l.length ≤ 100) (hn : l.length ≠ 32) (hg : GlobK w) :
    Calls Tryd.prog 15 #[.int .i64 32, .slice A l.length c, .bool true] w fun e w' => (∃ v, e = .returned (.tuple #[v, .bool false])) ∧ Below w.heap.size w w' := by
  have HH := Lib.hid (And.intro hC (And.intro hl (And.intro (own_self l h1) (And.intro hn hg))))
  clear hC hl h1 hn hg
  go_enter Tryd.func15, Tryd.ntmps15
  go_wp2_with fail
  obtain ⟨hC, hl, ho, hn, hg⟩ := id HH
  refine (impl_own.calls A c l l w hC hl ho).mono ?_
  rintro e w1 ⟨v0, rfl, hR, hb⟩
  obtain ⟨A1, c1, rfl⟩ := Kd.R_slice hR
  have HB := Lib.hid (And.intro hb (And.intro hn (hg.on hb)))
  clear hR hC hl ho hn hg HH hb
  go_wp2_with fail
  refine (dig_no A1 _ c1 HB.out.2.1 _ HB.out.2.2).mono ?_
  rintro e w2 ⟨⟨pv, rfl⟩, hb2⟩
  have HB2 := Lib.hid (HB.out.1.trans (hb2.mono HB.out.1.size))
  clear hb2 HB
  go_wp2_with fail
  refine start_ (n := 5) (S := fun w' => True) (ds := []) #[false, false, false, false, false] (by kernel_rfl) rfl rfl trivial (fun hHeld => ?_)
  refine pure_ (i := 0) (N := some 72) (v := ?_) (a' := ?_) #[true, false, false, false, false] rfl rfl (by kernel_rfl) (fun _ _ _ h => h) (Or.inl ⟨by rfl, ?_⟩) ?_ ?_
  rotate_left
  · intro w'
    go_simp
    with_reducible rfl
  rotate_left
  · simp only [Act.put, List.setIfInBounds_toArray, List.set_cons_zero, List.set_cons_succ, i64_w, i32_w]
    rfl
  refine pure_ (i := 1) (N := some 73) (v := ?_) (a' := ?_) #[true, true, false, false, false] rfl rfl (by kernel_rfl) (fun _ _ _ h => h) (Or.inl ⟨by rfl, ?_⟩) ?_ ?_
  rotate_left
  · intro w'
    go_simp
    with_reducible rfl
  rotate_left
  · simp only [Act.put, List.setIfInBounds_toArray, List.set_cons_zero, List.set_cons_succ, i64_w, i32_w]
    rfl
  refine pure_ (i := 2) (N := some 74) (v := ?_) (a' := ?_) #[true, true, true, false, false] rfl rfl (by kernel_rfl) (fun _ _ _ h => h) (Or.inl ⟨by rfl, ?_⟩) ?_ ?_
  rotate_left
  · intro w'
    go_simp
    with_reducible rfl
  rotate_left
  · simp only [Act.put, List.setIfInBounds_toArray, List.set_cons_zero, List.set_cons_succ, i64_w, i32_w]
    rfl
  refine pure_ (i := 3) (N := some 6) (v := ?_) (a' := ?_) #[true, true, true, true, false] rfl rfl (by kernel_rfl) (fun _ _ _ h => h) (Or.inl ⟨by rfl, ?_⟩) ?_ ?_
  rotate_left
  · intro w'
    go_simp
    with_reducible rfl
  rotate_left
  · simp only [Act.put, List.setIfInBounds_toArray, List.set_cons_zero, List.set_cons_succ, i64_w, i32_w]
    rfl
  refine pure_ (i := 4) (N := some 7) (v := ?_) (a' := ?_) #[true, true, true, true, true] rfl rfl (by kernel_rfl) (fun _ _ _ h => h) (Or.inl ⟨by rfl, ?_⟩) ?_ ?_
  rotate_left
  · intro w'
    go_simp
    with_reducible rfl
  rotate_left
  · simp only [Act.put, List.setIfInBounds_toArray, List.set_cons_zero, List.set_cons_succ, i64_w, i32_w]
    rfl
  refine done_ (by kernel_rfl) ?_
  go_wp2_with fail
  go_ret2
  exact ⟨⟨_, rfl⟩, HB2.out.drew⟩
set_option maxHeartbeats 4000000 in
set_option maxRecDepth 100000 in
theorem high32t_yes (A : Option Addr) (c : Nat) (l : List Int) (w : World) (hC : Kd.C (Kd.int .u8) w A l.length l) (hl : l.length ≤ c) (h0 : l = List.replicate 32 0) :
    Calls Tryd.prog 15 #[.int .i64 32, .slice A l.length c, .bool true] w fun e w' => ∃ g, e = .returned (.tuple #[.iface 80 (.pointer (some ⟨g, 0, none⟩)), .bool true]) ∧ Dg 102 g w' ∧ Below w.heap.size w w' := by
  have h32 : l.length = 32 := by rw [h0, List.length_replicate]
  have hz : ∀ i, i < 32 → l[i]? = some 0 := fun i hi => by rw [h0, List.getElem?_replicate, if_pos hi]
  have HH := Lib.hid (And.intro hC (And.intro hl (And.intro (own_self l (by omega)) (And.intro h32 hz))))
  clear hC hl h0 h32 hz
  go_enter Tryd.func15, Tryd.ntmps15
  go_wp2_with fail
  obtain ⟨hC, hl, ho, h32, hz⟩ := id HH
  refine (impl_own.calls A c l l w hC hl ho).mono ?_
  rintro e w1 ⟨v0, rfl, hR, hb⟩
  obtain ⟨p, c1, rfl⟩ := Kd.R_slice1 hR (by omega)
  have hk : ∀ W, Below w1.heap.size w1 W → ∀ i, i < 32 → W.cell? (p.add i) = some (.int .u8 0) := fun W hW i hi => c_cell (Kd.R_reads' (Kd.R_below hR hW)).2.2 i 0 (hz i hi)
  simp only [h32]
  have HB := Lib.hid (And.intro hb hk)
  clear hR hC hl ho h32 hz HH hb hk
  go_wp2_with fail
  refine (dig_yes p c1 _ HB.out.2).mono ?_
  rintro e w2 ⟨g, rfl, hd, hb2⟩
  have HB2 := Lib.hid (And.intro hd (HB.out.1.trans (hb2.mono HB.out.1.size)))
  clear hb2 HB hd
  go_wp2_with fail
  refine start_ (n := 5) (S := fun w' => True) (ds := []) #[false, false, false, false, false] (by kernel_rfl) rfl rfl trivial (fun hHeld => ?_)
  refine pure_ (i := 0) (N := some 72) (v := ?_) (a' := ?_) #[true, false, false, false, false] rfl rfl (by kernel_rfl) (fun _ _ _ h => h) (Or.inl ⟨by rfl, ?_⟩) ?_ ?_
  rotate_left
  · intro w'
    go_simp
    with_reducible rfl
  rotate_left
  · simp only [Act.put, List.setIfInBounds_toArray, List.set_cons_zero, List.set_cons_succ, i64_w, i32_w]
    rfl
  refine pure_ (i := 1) (N := some 73) (v := ?_) (a' := ?_) #[true, true, false, false, false] rfl rfl (by kernel_rfl) (fun _ _ _ h => h) (Or.inl ⟨by rfl, ?_⟩) ?_ ?_
  rotate_left
  · intro w'
    go_simp
    with_reducible rfl
  rotate_left
  · simp only [Act.put, List.setIfInBounds_toArray, List.set_cons_zero, List.set_cons_succ, i64_w, i32_w]
    rfl
  refine pure_ (i := 2) (N := some 74) (v := ?_) (a' := ?_) #[true, true, true, false, false] rfl rfl (by kernel_rfl) (fun _ _ _ h => h) (Or.inl ⟨by rfl, ?_⟩) ?_ ?_
  rotate_left
  · intro w'
    go_simp
    with_reducible rfl
  rotate_left
  · simp only [Act.put, List.setIfInBounds_toArray, List.set_cons_zero, List.set_cons_succ, i64_w, i32_w]
    rfl
  refine pure_ (i := 3) (N := some 6) (v := ?_) (a' := ?_) #[true, true, true, true, false] rfl rfl (by kernel_rfl) (fun _ _ _ h => h) (Or.inl ⟨by rfl, ?_⟩) ?_ ?_
  rotate_left
  · intro w'
    go_simp
    with_reducible rfl
  rotate_left
  · simp only [Act.put, List.setIfInBounds_toArray, List.set_cons_zero, List.set_cons_succ, i64_w, i32_w]
    rfl
  refine pure_ (i := 4) (N := some 7) (v := ?_) (a' := ?_) #[true, true, true, true, true] rfl rfl (by kernel_rfl) (fun _ _ _ h => h) (Or.inl ⟨by rfl, ?_⟩) ?_ ?_
  rotate_left
  · intro w'
    go_simp
    with_reducible rfl
  rotate_left
  · simp only [Act.put, List.setIfInBounds_toArray, List.set_cons_zero, List.set_cons_succ, i64_w, i32_w]
    rfl
  refine done_ (by kernel_rfl) ?_
  go_wp2_with fail
  go_ret2
  exact ⟨_, rfl, HB2.out.1.drew, HB2.out.2.drew⟩
set_option maxHeartbeats 4000000 in
set_option maxRecDepth 100000 in
theorem high32f_no (A : Option Addr) (c : Nat) (l : List Int) (w : World) (hC : Kd.C (Kd.int .u8) w A l.length l) (hl : l.length ≤ c) (h1 : l.length ≤ 100) (hn : l.length ≠ 32) (hg : GlobK w) :
    Calls Tryd.prog 15 #[.int .i64 32, .slice A l.length c, .bool false] w fun e w' => (∃ v, e = .returned (.tuple #[v, .bool false])) ∧ Below w.heap.size w w' := by
  have HH := Lib.hid (And.intro hC (And.intro hl (And.intro (own_self l h1) (And.intro hn hg))))
  clear hC hl h1 hn hg
  go_enter Tryd.func15, Tryd.ntmps15
  go_wp2_with fail
  obtain ⟨hC, hl, ho, hn, hg⟩ := id HH
  refine (impl_own.calls A c l l w hC hl ho).mono ?_
  rintro e w1 ⟨v0, rfl, hR, hb⟩
  obtain ⟨A1, c1, rfl⟩ := Kd.R_slice hR
  have HB := Lib.hid (And.intro hb (And.intro hn (hg.on hb)))
  clear hR hC hl ho hn hg HH hb
  go_wp2_with fail
  refine (new_no A1 _ c1 HB.out.2.1 _ HB.out.2.2).mono ?_
  rintro e w2 ⟨⟨pv, rfl⟩, hb2⟩
  have HB2 := Lib.hid (HB.out.1.trans (hb2.mono HB.out.1.size))
  clear hb2 HB
  go_wp2_with fail
  refine start_ (n := 5) (S := fun w' => True) (ds := []) #[false, false, false, false, false] (by kernel_rfl) rfl rfl trivial (fun hHeld => ?_)
  refine pure_ (i := 0) (N := some 72) (v := ?_) (a' := ?_) #[true, false, false, false, false] rfl rfl (by kernel_rfl) (fun _ _ _ h => h) (Or.inl ⟨by rfl, ?_⟩) ?_ ?_
  rotate_left
  · intro w'
    go_simp
    with_reducible rfl
  rotate_left
  · simp only [Act.put, List.setIfInBounds_toArray, List.set_cons_zero, List.set_cons_succ, i64_w, i32_w]
    rfl
  refine pure_ (i := 1) (N := some 73) (v := ?_) (a' := ?_) #[true, true, false, false, false] rfl rfl (by kernel_rfl) (fun _ _ _ h => h) (Or.inl ⟨by rfl, ?_⟩) ?_ ?_
  rotate_left
  · intro w'
    go_simp
    with_reducible rfl
  rotate_left
  · simp only [Act.put, List.setIfInBounds_toArray, List.set_cons_zero, List.set_cons_succ, i64_w, i32_w]
    rfl
  refine pure_ (i := 2) (N := some 74) (v := ?_) (a' := ?_) #[true, true, true, false, false] rfl rfl (by kernel_rfl) (fun _ _ _ h => h) (Or.inl ⟨by rfl, ?_⟩) ?_ ?_
  rotate_left
  · intro w'
    go_simp
    with_reducible rfl
  rotate_left
  · simp only [Act.put, List.setIfInBounds_toArray, List.set_cons_zero, List.set_cons_succ, i64_w, i32_w]
    rfl
  refine pure_ (i := 3) (N := some 6) (v := ?_) (a' := ?_) #[true, true, true, true, false] rfl rfl (by kernel_rfl) (fun _ _ _ h => h) (Or.inl ⟨by rfl, ?_⟩) ?_ ?_
  rotate_left
  · intro w'
    go_simp
    with_reducible rfl
  rotate_left
  · simp only [Act.put, List.setIfInBounds_toArray, List.set_cons_zero, List.set_cons_succ, i64_w, i32_w]
    rfl
  refine pure_ (i := 4) (N := some 7) (v := ?_) (a' := ?_) #[true, true, true, true, true] rfl rfl (by kernel_rfl) (fun _ _ _ h => h) (Or.inl ⟨by rfl, ?_⟩) ?_ ?_
  rotate_left
  · intro w'
    go_simp
    with_reducible rfl
  rotate_left
  · simp only [Act.put, List.setIfInBounds_toArray, List.set_cons_zero, List.set_cons_succ, i64_w, i32_w]
    rfl
  refine done_ (by kernel_rfl) ?_
  go_wp2_with fail
  go_ret2
  exact ⟨⟨_, rfl⟩, HB2.out.drew⟩
set_option maxHeartbeats 4000000 in
set_option maxRecDepth 100000 in
theorem high32f_yes (A : Option Addr) (c : Nat) (l : List Int) (w : World) (hC : Kd.C (Kd.int .u8) w A l.length l) (hl : l.length ≤ c) (h0 : l = List.replicate 32 0) :
    Calls Tryd.prog 15 #[.int .i64 32, .slice A l.length c, .bool false] w fun e w' => ∃ g, e = .returned (.tuple #[.iface 80 (.pointer (some ⟨g, 0, none⟩)), .bool true]) ∧ Dg 102 g w' ∧ Below w.heap.size w w' := by
  have h32 : l.length = 32 := by rw [h0, List.length_replicate]
  have hz : ∀ i, i < 32 → l[i]? = some 0 := fun i hi => by rw [h0, List.getElem?_replicate, if_pos hi]
  have HH := Lib.hid (And.intro hC (And.intro hl (And.intro (own_self l (by omega)) (And.intro h32 hz))))
  clear hC hl h0 h32 hz
  go_enter Tryd.func15, Tryd.ntmps15
  go_wp2_with fail
  obtain ⟨hC, hl, ho, h32, hz⟩ := id HH
  refine (impl_own.calls A c l l w hC hl ho).mono ?_
  rintro e w1 ⟨v0, rfl, hR, hb⟩
  obtain ⟨p, c1, rfl⟩ := Kd.R_slice1 hR (by omega)
  have hk : ∀ W, Below w1.heap.size w1 W → ∀ i, i < 32 → W.cell? (p.add i) = some (.int .u8 0) := fun W hW i hi => c_cell (Kd.R_reads' (Kd.R_below hR hW)).2.2 i 0 (hz i hi)
  simp only [h32]
  have HB := Lib.hid (And.intro hb hk)
  clear hR hC hl ho h32 hz HH hb hk
  go_wp2_with fail
  refine (new_yes p c1 _ HB.out.2).mono ?_
  rintro e w2 ⟨g, rfl, hd, hb2⟩
  have HB2 := Lib.hid (And.intro hd (HB.out.1.trans (hb2.mono HB.out.1.size)))
  clear hb2 HB hd
  go_wp2_with fail
  refine start_ (n := 5) (S := fun w' => True) (ds := []) #[false, false, false, false, false] (by kernel_rfl) rfl rfl trivial (fun hHeld => ?_)
  refine pure_ (i := 0) (N := some 72) (v := ?_) (a' := ?_) #[true, false, false, false, false] rfl rfl (by kernel_rfl) (fun _ _ _ h => h) (Or.inl ⟨by rfl, ?_⟩) ?_ ?_
  rotate_left
  · intro w'
    go_simp
    with_reducible rfl
  rotate_left
  · simp only [Act.put, List.setIfInBounds_toArray, List.set_cons_zero, List.set_cons_succ, i64_w, i32_w]
    rfl
  refine pure_ (i := 1) (N := some 73) (v := ?_) (a' := ?_) #[true, true, false, false, false] rfl rfl (by kernel_rfl) (fun _ _ _ h => h) (Or.inl ⟨by rfl, ?_⟩) ?_ ?_
  rotate_left
  · intro w'
    go_simp
    with_reducible rfl
  rotate_left
  · simp only [Act.put, List.setIfInBounds_toArray, List.set_cons_zero, List.set_cons_succ, i64_w, i32_w]
    rfl
  refine pure_ (i := 2) (N := some 74) (v := ?_) (a' := ?_) #[true, true, true, false, false] rfl rfl (by kernel_rfl) (fun _ _ _ h => h) (Or.inl ⟨by rfl, ?_⟩) ?_ ?_
  rotate_left
  · intro w'
    go_simp
    with_reducible rfl
  rotate_left
  · simp only [Act.put, List.setIfInBounds_toArray, List.set_cons_zero, List.set_cons_succ, i64_w, i32_w]
    rfl
  refine pure_ (i := 3) (N := some 6) (v := ?_) (a' := ?_) #[true, true, true, true, false] rfl rfl (by kernel_rfl) (fun _ _ _ h => h) (Or.inl ⟨by rfl, ?_⟩) ?_ ?_
  rotate_left
  · intro w'
    go_simp
    with_reducible rfl
  rotate_left
  · simp only [Act.put, List.setIfInBounds_toArray, List.set_cons_zero, List.set_cons_succ, i64_w, i32_w]
    rfl
  refine pure_ (i := 4) (N := some 7) (v := ?_) (a' := ?_) #[true, true, true, true, true] rfl rfl (by kernel_rfl) (fun _ _ _ h => h) (Or.inl ⟨by rfl, ?_⟩) ?_ ?_
  rotate_left
  · intro w'
    go_simp
    with_reducible rfl
  rotate_left
  · simp only [Act.put, List.setIfInBounds_toArray, List.set_cons_zero, List.set_cons_succ, i64_w, i32_w]
    rfl
  refine done_ (by kernel_rfl) ?_
  go_wp2_with fail
  go_ret2
  exact ⟨_, rfl, HB2.out.1.drew, HB2.out.2.drew⟩
end Go.Proofs.YtnehminojlocoaaDoor.PAll
