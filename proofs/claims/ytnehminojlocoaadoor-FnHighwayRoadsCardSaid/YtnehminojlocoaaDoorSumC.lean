/- SumC: HvSum, HvSpU, HvSpR, HvStep, HvPk, HvNh, HvStep2, HvRem. -/
import Derived.Test.YtnehminojlocoaaDoorSumB
import Derived.Laws.Tables
import Derived.Great.BuildSlice
import Derived.Laws.MakeOwn
namespace Go.Proofs.YtnehminojlocoaaDoor.PAll
open Go.RowKit Go.Proofs.YtnehminojlocoaaDoorW.PrintWords Go.Proofs.YtnehminojlocoaaDoorW.PrintLast Go.Proofs.YtnehminojlocoaaDoorW.PrintMore
set_option linter.unusedVariables false
set_option linter.unusedSimpArgs false
/-- The state behind a text of n octets. -/
def hvS (y x : Nat → Int) (n : Nat) : Nat → Int := if n % 32 = 0 then updN (n / 32) (ini (keyN y)) x else hb (n % 32) (updN (n / 32) (ini (keyN y)) x) (fun i => if i < n % 32 then x (n / 32 * 32 + i) else 0)
theorem land32 (n : Nat) (h : n < 18446744073709551616) : n &&& 18446744073709551584 = n / 32 * 32 := by
  apply Nat.eq_of_testBit_eq
  intro i
  have e1 : (18446744073709551584 : Nat) = (2 ^ 59 - 1) <<< 5 := by decide
  have e2 : n / 32 * 32 = (n >>> 5) <<< 5 := by rw [Nat.shiftLeft_eq, Nat.shiftRight_eq_div_pow]
  rw [Nat.testBit_and, e1, e2, Nat.testBit_shiftLeft, Nat.testBit_shiftLeft, Nat.testBit_shiftRight, Nat.testBit_two_pow_sub_one]
  by_cases h5 : 5 ≤ i
  · rw [show 5 + (i - 5) = i by omega]
    by_cases h64 : i < 64
    · have h1 : i - 5 < 59 := by omega
      simp [h5, h1]
    · have h2 : n.testBit i = false := Nat.testBit_lt_two_pow (Nat.lt_of_lt_of_le (show n < 2 ^ 64 from h) (Nat.pow_le_pow_right (by decide) (by omega)))
      simp [h2]
  · simp [h5]
theorem andE (n : Nat) (h : n < 9223372036854775808) : (BitVec.ofInt 64 (n : Int) &&& BitVec.ofInt 64 (-32)).toNat = n / 32 * 32 := by
  rw [BitVec.toNat_and]
  have e1 : (BitVec.ofInt 64 (n : Int)).toNat = n := by
    rw [BitVec.toNat_ofInt]
    omega
  have e2 : (BitVec.ofInt 64 (-32)).toNat = 18446744073709551584 := by decide
  rw [e1, e2]
  exact land32 n (by omega)
theorem andm32 (n : Nat) (h : n < 9223372036854775808) : Go.bits .and .i64 (n : Int) (-32) = ((n / 32 * 32 : Nat) : Int) := by
  show IntKind.i64.wrap ((BitVec.ofInt 64 (n : Int) &&& BitVec.ofInt 64 (-32)).toNat : Int) = _
  rw [andE n h, i64_w]
  unfold wrap64
  omega
theorem arr_all (t e : TypeId) (k : Nat) (ht : Tryd.prog.underlying t = some (.array k e)) (hs : ∀ w, (Go.sizeOf e).run Tryd.prog w = .ok 1 w) (hk : 0 < k) (W : World) (b i : Nat) : (Instr.sliceAt t (.pointer (some ⟨b, i, none⟩)) none none none).run Tryd.prog W = .ok (.slice (some ⟨b, i, none⟩) k k) W := by
  have h2 : ¬ k = 0 := by omega
  simp [go_sem, Instr.sliceAt, Instr.sliceBounds, und ht, hs, Addr.add, h2]
theorem results_cell {fn : Func} {t : Tmp} {ty : TypeId} {b : Bl} {a : Act} {W : World} (hr : fn.results = #[.cell t ty]) (ha : a.eval (.tmp t) = .pointer (some ⟨b.g, 0, none⟩)) (h1 : ∀ w, (isAgg ty).run Tryd.prog w = .ok true w) (h2 : ∀ w, (Go.sizeOf ty).run Tryd.prog w = .ok b.n w) (hb : b.In W) :
    (results fn a.tmps).run Tryd.prog W = .ok (.agg ((List.range b.n).map b.m).toArray) W := by
  have hl := run_loadCells (P := Tryd.prog) (w := W) ⟨b.g, 0, none⟩ b.n b.m (fun j hj => by
    have e : (Addr.add ⟨b.g, 0, none⟩ j) = ⟨b.g, j, none⟩ := by
      by_cases h0 : j = 0
      · simp [h0, Addr.add]
      · simp [h0, Addr.add]
    rw [e]
    exact hb.cell j hj)
  have ha' : a.tmps[t]?.getD undef = .pointer (some ⟨b.g, 0, none⟩) := by
    rw [← Array.getD_eq_getD_getElem?]
    exact ha
  unfold loadCells at hl
  simp [results, hr, ha', go_sem, h1, h2, hl]
theorem one_fin16 (S : Nat → Int) (j : Nat) (hj : j < 16) : (fin16 S (fun _ => .int .u8 0) j).oneCell' = true := by
  unfold fin16 putB
  repeat' split
  all_goals rfl
theorem one_fin32 (S : Nat → Int) (j : Nat) (hj : j < 32) : (fin32 S (fun _ => .int .u8 0) j).oneCell' = true := by
  unfold fin32 putB
  repeat' split
  all_goals rfl
theorem store_ops {P : Program} {ops : Array Oper} {Q : Exit → Act → World → Prop} {N : Nat} {β : Nat → Nat} {i b : Nat} {o : Oper} {t : TypeId} {x y : Operand} {cs : Array Value} {l : List Nat} {a : Act} {w w1 : World} {E : List (Nat × SV)} (ho : ops[i]? = some o) (hg : o.guard = none) (hd : o.dst = none) (hA : Has N β E a) (hop : o.op = .store t x y) (hx : a.eval x = .pointer (some ⟨b, 0, none⟩)) (hy : a.eval y = .agg cs)
    (hst : (storeVar t ⟨b, 0, none⟩ (.agg cs)).run P w = .ok () w1) (h : wpOps P ops Q l a w1) : wpOps P ops Q (i :: l) a w := by
  have hrun : (execOp a.eval o).run P w = .ok .skip w1 := by
    unfold execOp
    rw [hop]
    simp only [hx, hy, Instr.storeAt, Instr.sureAddr, Sem.run_bind, Sem.run_pure, Result.andThen_ok, hst]
  unfold wpOps
  simp only [ho]
  rw [if_pos (want_ hg)]
  refine Or.inl ?_
  unfold Oper.wp
  rw [hrun, Oper.upon_skip, hd]
  exact h
noncomputable def c8_13 : Code := match Tryd.f27.body with
  | some (.seq _ (.seq _ (.seq _ (.seq _ (.seq _ (.seq _ c)))))) => c
  | _ => .skip
noncomputable def c8_9 : Code := match Tryd.f27.body with
  | some (.seq _ (.seq _ (.seq _ (.seq _ (.seq _ c))))) => c
  | _ => .skip
def res8 (S : Nat → Int) : Value := .int .u64 (le8 (byt (add4 (mixN 4 S) 0 4 8 12)))
set_option maxHeartbeats 4000000 in
set_option maxRecDepth 100000 in
theorem s8_fin (g : Nat) (S : Nat → Int) (m : Nat → Value) (w W : World) (a : Act) (hs : (⟨g, 92, 16, stm S m⟩ : Bl).In W) (hg : w.heap.size ≤ g) (hF : Fr [] w W) (hA : Has 41 (bg []) [(5, .v (.pointer (some ⟨g, 0, none⟩)))] a) (hd : a.defers = []) :
    Code.wp Tryd.prog c8_13 (bodyPost Tryd.prog Tryd.f27 fun e w' => e = .returned (res8 (S)) ∧ Below w.heap.size w w') a W := by
  have M0 : Mw (bg []) [] W := ⟨rfl, trivial⟩
  have lW : g < W.heap.size := hs.lt
  have wW : w.heap.size ≤ W.heap.size := hF.size
  refine wp_seq ?_
  refine wp_region ?_
  refine alloc_ops (N := 41) (i := 0) (d := 9) (l := []) rfl rfl rfl (by decide) hA rfl allocOk97 (fun a1 hA1 hd1 => ?_)
  have F1 := (Fr.refl [] W).alloc (.cells (Array.replicate 8 (.int .u8 0)) 97)
  have hs1 := hs.on F1 (by simp)
  have hh1 := bl_rep0 W 8 (.int .u8 0) 97
  have F2 := hF.trans F1
  clear hA hs F1 hF
  show Code.wp _ _ _ _ _
  generalize hW1 : W.alloc (.cells (Array.replicate 8 (.int .u8 0)) 97) = W1 at hs1 hh1 F2 ⊢
  clear hW1
  refine wp_seq ?_
  refine wp_region ?_
  refine given_ops (N := 41) (i := 0) (v := .slice (some ⟨W.heap.size, 0, none⟩) 8 8) (l := [1]) rfl rfl rfl (by decide) hA1 (op_slice rfl ?_) (fun a2 hA2 hd2 => ?_)
  · show (Instr.sliceAt _ (a1.eval (.tmp 9)) none none none).run _ _ = _
    rw [hA1.2 9 _ rfl]
    exact arr_all 97 _ 8 Tryd.underlying97 Tryd.sizeOf5 (by decide) W1 _ 0
  have P := finalize8_walk g 92 W.heap.size 97 8 S m (fun _ => .int .u8 0) W1 hs1 hh1 (by omega) (by decide)
  refine call_ops (N := 41) (i := 1) (d := 37) (f := 42) (args := [.v (.slice (some ⟨W.heap.size, 0, none⟩) 8 8), .v (.pointer (some ⟨g, 0, none⟩))]) (l := []) rfl rfl rfl (by decide) hA2 Tryd.func42 rfl rfl rfl (by kernel_rfl) (fun v W' => (⟨W.heap.size, 97, 8, fin8 (mixN 4 S) (fun _ => .int .u8 0)⟩ : Bl).In W' ∧ Fr [g, W.heap.size] W1 W') (P.mono fun e W' hh => ⟨_, hh.1, hh.2⟩) (fun v W2 a3 hR hA3 hd3 => ?_)
  obtain ⟨hh2, G2⟩ := hR
  have F3 : Fr [] w W2 := F2.comp G2 (fun k hk => by simp at hk; rcases hk with rfl | rfl <;> right <;> omega)
  have d3 : a3.defers = [] := hd3.trans (hd2.trans (hd1.trans hd))
  clear P G2 F2 hs1 hh1 hd1 hd2 hd3
  show Code.wp _ _ _ _ _
  refine wp_seq ?_
  have h4 := has_list (β := bg [⟨W.heap.size, 97, 8, fin8 (mixN 4 S) (fun _ => .int .u8 0)⟩]) (a := a3) hA3.1 (E := [(9, .p 0 0)]) ⟨hA3.2 9 _ rfl, trivial⟩
  have M4 : Mw (bg [⟨W.heap.size, 97, 8, fin8 (mixN 4 S) (fun _ => .int .u8 0)⟩]) [⟨W.heap.size, 97, 8, fin8 (mixN 4 S) (fun _ => .int .u8 0)⟩] W2 := ⟨rfl, hh2, by simp, trivial⟩
  refine reg_call_keep (S := fun V => Mw (bg [⟨W.heap.size, 97, 8, fin8 (mixN 4 S) (fun _ => .int .u8 0)⟩]) [⟨W.heap.size, 97, 8, fin8 (mixN 4 S) (fun _ => .int .u8 0)⟩] V ∧ Fr [] w V) (N := 41) (T := TT) (M := bm [⟨W.heap.size, 97, 8, fin8 (mixN 4 S) (fun _ => .int .u8 0)⟩]) (l1 := [0, 1]) (j := 2) (l2 := [3]) (f := 43) (d := 40) (v := .int .u64 (le8 (byt (add4 (mixN 4 S) 0 4 8 12)))) (args := [.v (.agg #[]), .s 0 0 8 8]) (E2 := [(4, .v (.int .u64 (le8 (byt (add4 (mixN 4 S) 0 4 8 12)))))]) (by kernel_rfl) tabOk (fun V h => h.1.mem) h4 ⟨M4.drew, F3.drew⟩ rfl (by kernel_rfl) (by kernel_rfl) Tryd.func43 rfl rfl
    (fun V hV => (u64_walk W.heap.size 0 8 8 (by decide) (byt (add4 (mixN 4 S) 0 4 8 12)) V (fun i hi => by
      rw [Nat.zero_add, (hV.1.2.get (k := 0) rfl).cell i hi]
      show some (fin8 (mixN 4 S) (fun _ => .int .u8 0) i) = _
      unfold fin8 putB
      rw [if_pos (by omega)]
      rfl)).mono fun e V' hh => ⟨hh.1, hV.1.onB hh.2, hV.2.trans (Fr.ofBelow [] hh.2)⟩) (by kernel_rfl) ⟨by kernel_rfl, trivial⟩ (fun _ _ _ _ hd h => And.intro (hd.trans (And.left h)) (And.right h)) (fun a5 W5 h5 d5 hV => ?_)
  show Code.wp _ _ _ _ _
  refine wp_ret ?_
  refine ⟨d5.trans d3, _, results_tmp rfl _ _ _, ?_, hV.2.below _ (Nat.le_refl _) (by simp)⟩
  exact congrArg Ending.returned (h5.2 4 _ rfl)
set_option maxHeartbeats 4000000 in
set_option maxRecDepth 100000 in
theorem s8_9 (g r c b o : Nat) (A : Option Addr) (S z : Nat → Int) (m : Nat → Value) (w W : World) (a : Act) (hs : (⟨g, 92, 16, stm S m⟩ : Bl).In W) (hg : w.heap.size ≤ g) (hF : Fr [] w W) (hrn : r < 32) (hA0 : 0 < r → A = some ⟨b, o, none⟩) (hz : Bts b o r z W)
    (hA : Has 41 (bg []) [(0, .v (.slice A r c)), (5, .v (.pointer (some ⟨g, 0, none⟩)))] a) (hd : a.defers = []) :
    Code.wp Tryd.prog c8_9 (bodyPost Tryd.prog Tryd.f27 fun e w' => e = .returned (res8 (if r = 0 then S else hb r S (fun i => if i < r then z i else 0))) ∧ Below w.heap.size w w') a W := by
  have M0 : Mw (bg []) [] W := ⟨rfl, trivial⟩
  refine wp_seq ?_
  refine wp_seq ?_
  refine regM_seq (N := 41) (T := TT) (n := 3) (E2 := [(0, .v (.slice A r c)), (5, .v (.pointer (some ⟨g, 0, none⟩))), (30, .v (.bool (decide ((r : Int) > 0))))]) tabOk hA M0 rfl (by kernel_rfl) ⟨by kernel_rfl, by kernel_rfl, by kernel_rfl, trivial⟩ (fun a1 h1 d1 => ?_)
  show Code.wp _ _ _ _ _
  replace d1 := d1.trans hd
  clear hA
  by_cases hr0 : r = 0
  · subst hr0
    refine wp_cond_false ((h1.2 30 _ rfl).trans (congrArg Value.bool (decide_eq_false (by omega)))) ?_
    refine wp_skip ?_
    show Code.wp _ _ _ _ _
    rw [if_pos rfl]
    exact s8_fin g S m w W a1 hs hg hF (sub_ok h1 ⟨by kernel_rfl, trivial⟩) d1
  · have hrp : 0 < r := by omega
    obtain rfl := hA0 hrp
    refine wp_cond_true ((h1.2 30 _ rfl).trans (congrArg Value.bool (decide_eq_true (by omega)))) ?_
    refine wp_seq ?_
    refine wp_region ?_
    refine alloc_ops (N := 41) (i := 0) (d := 7) (l := []) rfl rfl rfl (by decide) h1 rfl allocOk71 (fun a2 h2 d2 => ?_)
    have lW : g < W.heap.size := hs.lt
    have lb : b < W.heap.size := World.block_lt_of_cell? W _ (hz 0 hrp)
    have wW : w.heap.size ≤ W.heap.size := hF.size
    have F1 := (Fr.refl [] W).alloc (.cells (Array.replicate 32 (.int .u8 0)) 71)
    have hs1 := hs.on F1 (by simp)
    have hz1 := hz.on F1 (by simp)
    have hh1 := bl_rep0 W 32 (.int .u8 0) 71
    have F2 := hF.trans F1
    clear h1 hs F1 hF hz M0
    show Code.wp _ _ _ _ _
    generalize hW1 : W.alloc (.cells (Array.replicate 32 (.int .u8 0)) 71) = W1 at hs1 hh1 F2 hz1 ⊢
    clear hW1
    have M1 : Mw (bg []) [] W1 := ⟨rfl, trivial⟩
    refine wp_seq ?_
    refine wp_region ?_
    refine given_ops (N := 41) (i := 0) (v := .slice (some ⟨W.heap.size, 0, none⟩) 32 32) (l := [1, 2, 3]) rfl rfl rfl (by decide) h2 (op_slice rfl ?_) (fun a3 h3 d3 => ?_)
    · show (Instr.sliceAt _ (a2.eval (.tmp 7)) none none none).run _ _ = _
      rw [h2.2 7 _ rfl]
      exact arr_all 71 _ 32 Tryd.underlying71 Tryd.sizeOf5 (by decide) W1 _ 0
    refine ops_ (N := 41) (M := bm []) (T := TT) (E' := [(32, .v (.slice (some ⟨b, o, none⟩) r c)), (31, .v (.slice (some ⟨W.heap.size, 0, none⟩) 32 32)), (7, .v (.pointer (some ⟨W.heap.size, 0, none⟩))), (0, .v (.slice (some ⟨b, o, none⟩) r c)), (5, .v (.pointer (some ⟨g, 0, none⟩))), (30, .v (.bool (decide ((r : Int) > 0))))]) tabOk M1.mem [2, 3] [1] (by kernel_rfl) h3 (fun a4 h4 d4 => ?_)
    have C := fun ty => copy_in (P := Tryd.prog) hh1 0 32 32 b o r c r (fun j => .int .u8 (z j)) (Nat.min_eq_left (by omega)).symm (by show 0 + r ≤ 32; omega) hz1 (fun _ _ => rfl) 22 22 ty 5 Tryd.underlying22 (by kernel_rfl)
    refine copy_ops (N := 41) (i := 2) (d := 33) (t1 := 22) (t2 := 22) (sx := .v (.slice (some ⟨W.heap.size, 0, none⟩) 32 32)) (sy := .v (.slice (some ⟨b, o, none⟩) r c)) (v := goInt (r : Int)) (l := [3]) h4 (by kernel_rfl) (fun W' => (⟨W.heap.size, 71, 32, cpB (fun _ => .int .u8 0) 0 r (fun j => .int .u8 (z j))⟩ : Bl).In W' ∧ Fr [W.heap.size] W1 W') C (fun a5 W2 h5 d5 hR => ?_)
    obtain ⟨hh2, G2⟩ := hR
    have M2 : Mw (bg []) [] W2 := ⟨rfl, trivial⟩
    refine ops_ (N := 41) (M := bm []) (T := TT) (E' := (8, .v (goInt (r : Int))) :: (33, .v (goInt (r : Int))) :: [(32, .v (.slice (some ⟨b, o, none⟩) r c)), (31, .v (.slice (some ⟨W.heap.size, 0, none⟩) 32 32)), (7, .v (.pointer (some ⟨W.heap.size, 0, none⟩))), (0, .v (.slice (some ⟨b, o, none⟩) r c)), (5, .v (.pointer (some ⟨g, 0, none⟩))), (30, .v (.bool (decide ((r : Int) > 0))))]) tabOk M2.mem [] [3] (by kernel_rfl) h5 (fun a6 h6 d6 => ?_)
    have h7 := sub_ok (E := [(5, .v (.pointer (some ⟨g, 0, none⟩))), (7, .v (.pointer (some ⟨W.heap.size, 0, none⟩))), (8, .v (goInt (r : Int)))]) h6 ⟨by kernel_rfl, by kernel_rfl, by kernel_rfl, trivial⟩
    have hs2 := hs1.on G2 (by simp; omega)
    have F3 : Fr [] w W2 := F2.comp G2 (fun k hk => by simp at hk; subst hk; right; omega)
    have d7 : a6.defers = [] := d6.trans (d5.trans (d4.trans (d3.trans (d2.trans d1))))
    clear h2 h3 h4 h5 h6 d1 d2 d3 d4 d5 d6 C M1 F2 hz1
    show Code.wp _ _ _ _ _
    have hh3 : (⟨W.heap.size, 71, 32, bufM 0 (fun i => if i < r then z i else 0) (fun _ => .int .u8 0)⟩ : Bl).In W2 := hh2.eq (fun i hi => by
      have hi' : i < 32 := hi
      show cpB (fun _ => .int .u8 0) 0 r (fun j => .int .u8 (z j)) i = bufM 0 (fun i => if i < r then z i else 0) (fun _ => .int .u8 0) i
      unfold cpB bufM
      rw [if_pos (show 0 ≤ i ∧ i < 0 + 32 by omega)]
      by_cases hir : i < r
      · rw [if_pos (by omega), Nat.sub_zero]
        simp [hir]
      · rw [if_neg (by omega), Nat.sub_zero]
        simp [hir])
    have P := hb_walk g 92 W.heap.size 71 r 0 32 (Nat.le_refl 32) S (fun i => if i < r then z i else 0) m (fun _ => .int .u8 0) W2 hrp hrn hs2 hh3 (by omega)
    refine regM_seq_call (N := 41) (T := TT) (n := 1) (f := 41) (d := 35) (args := [.v (.pointer (some ⟨g, 0, none⟩)), .v (.pointer (some ⟨W.heap.size, 0, none⟩)), .v (goInt (r : Int))]) (E2 := [(5, .v (.pointer (some ⟨g, 0, none⟩)))]) tabOk h7 M2 rfl (by kernel_rfl) Tryd.func41 rfl rfl (fun v W' => (⟨g, 92, 16, stm (hb r S (fun i => if i < r then z i else 0)) m⟩ : Bl).In W' ∧ Fr [g] W2 W') (P.mono fun e W' hh => ⟨_, hh.1, hh.2⟩) ⟨by kernel_rfl, trivial⟩ rfl (fun a8 v8 W3 h8 d8 hR => ?_)
    obtain ⟨hs3, G3⟩ := hR
    show Code.wp _ _ _ _ _
    rw [if_neg hr0]
    exact s8_fin g (hb r S (fun i => if i < r then z i else 0)) m w W3 a8 hs3 hg (F3.comp G3 (fun k hk => by simp at hk; subst hk; right; exact hg)) (sub_ok h8 ⟨by kernel_rfl, trivial⟩) (d8.trans d7)
set_option maxHeartbeats 4000000 in
set_option maxRecDepth 100000 in
theorem sum8_walk (A : Option Addr) (b o n c kb ko kc : Nat) (x y : Nat → Int) (w : World) (hn : n < 9223372036854775808) (hc : n ≤ c) (hkc : 32 ≤ kc) (hA0 : 0 < n → A = some ⟨b, o, none⟩) (hx : Bts b o n x w) (hy : Bts kb ko 32 y w) :
    Calls Tryd.prog 27 #[.slice A n c, .slice (some ⟨kb, ko, none⟩) 32 kc] w fun e w' => e = .returned (res8 (hvS y x n)) ∧ Below w.heap.size w w' := by
  refine calls_of_wp Tryd.func27 rfl ?_
  have hA := has_two (β := bg []) (.v (.slice A n c)) (.v (.slice (some ⟨kb, ko, none⟩) 32 kc)) 39
  have M0 : Mw (bg []) [] w := ⟨rfl, trivial⟩
  refine wp_seq ?_
  refine regM_seq (N := 41) (T := TT) (n := 1) (E2 := [(0, .v (.slice A n c)), (1, .v (.slice (some ⟨kb, ko, none⟩) 32 kc))]) tabOk hA M0 rfl (by kernel_rfl) ⟨by kernel_rfl, by kernel_rfl, trivial⟩ (fun a0 h0 d0 => ?_)
  show Code.wp _ _ _ _ _
  have F0 := Fr.refl [] w
  have hx0 := hx
  have hy0 := hy
  replace d0 : a0.defers = [] := d0
  clear hA M0
  have wW : w.heap.size ≤ w.heap.size := F0.size
  have M0 : Mw (bg []) [] w := ⟨rfl, trivial⟩
  refine wp_seq ?_
  refine wp_seq ?_
  refine regM_seq (N := 41) (T := TT) (n := 3) (E2 := [(0, .v (.slice A n c)), (1, .v (.slice (some ⟨kb, ko, none⟩) 32 kc)), (12, .v (.bool false))]) tabOk h0 M0 rfl (by kernel_rfl) ⟨by kernel_rfl, by kernel_rfl, by kernel_rfl, trivial⟩ (fun a1 h1 d1 => ?_)
  show Code.wp _ _ _ _ _
  refine wp_cond_false (h1.2 12 _ rfl) (wp_skip ?_)
  show Code.wp _ _ _ _ _
  refine wp_seq ?_
  refine wp_region ?_
  refine alloc_ops (N := 41) (i := 0) (d := 5) (l := []) rfl rfl rfl (by decide) h1 rfl allocOk92 (fun a2 h2 d2 => ?_)
  have F1 := (Fr.refl [] w).alloc (.cells (Array.replicate 16 (.int .u64 0)) 92)
  have hg1 := bl_rep0 w 16 (.int .u64 0) 92
  have hx1 := hx0.on F1 (by simp)
  have hy1 := hy0.on F1 (by simp)
  have F2 := F0.trans F1
  have h3 := sub_ok (E := [(0, .v (.slice A n c)), (1, .v (.slice (some ⟨kb, ko, none⟩) 32 kc)), (5, .v (.pointer (some ⟨w.heap.size, 0, none⟩)))]) h2 ⟨by kernel_rfl, by kernel_rfl, by kernel_rfl, trivial⟩
  have d3 : a2.defers = [] := d2.trans (d1.trans d0)
  clear h0 h1 h2 d0 d1 d2 hx0 hy0 F1 M0
  show Code.wp _ _ _ _ _
  generalize hW : w.alloc (.cells (Array.replicate 16 (.int .u64 0)) 92) = W1 at hg1 hx1 hy1 F2 ⊢
  clear hW
  have M1 : Mw (bg []) [] W1 := ⟨rfl, trivial⟩
  have P1 := initialize_walk w.heap.size 92 0 kb ko kc y (fun _ => .int .u64 0) W1 hkc hg1 hy1
  refine wp_seq ?_
  refine regM_seq_call (N := 41) (T := TT) (n := 1) (f := 39) (d := 15) (args := [.v (.pointer (some ⟨w.heap.size, 0, none⟩)), .v (.slice (some ⟨kb, ko, none⟩) 32 kc)]) (E2 := [(0, .v (.slice A n c)), (1, .v (.slice (some ⟨kb, ko, none⟩) 32 kc)), (5, .v (.pointer (some ⟨w.heap.size, 0, none⟩)))]) tabOk h3 M1 rfl (by kernel_rfl) Tryd.func39 rfl rfl (fun v W' => (⟨w.heap.size, 92, 0 + 16, stm (ini (keyN y)) (fun _ => .int .u64 0)⟩ : Bl).In W' ∧ Fr [w.heap.size] W1 W') (P1.mono fun e W' hh => ⟨_, hh.1, hh.2⟩) ⟨by kernel_rfl, by kernel_rfl, by kernel_rfl, trivial⟩ rfl (fun a4 v4 W2 h4 d4 hR => ?_)
  obtain ⟨hg2, G2⟩ := hR
  replace hg2 : (⟨w.heap.size, 92, 16, stm (ini (keyN y)) (fun _ => .int .u64 0)⟩ : Bl).In W2 := hg2
  have hbn : 0 < n → b ≠ w.heap.size := fun hp => by
    have h1 := World.block_lt_of_cell? w _ (hx 0 hp)
    have h2 : b < w.heap.size := h1
    omega
  have hx2 : Bts b o n x W2 := fun i hi => G2.cell (hx1 i hi) (by simp; exact hbn (by omega))
  have F3 : Fr [] w W2 := F2.comp G2 (fun k hk => by simp at hk; subst hk; right; omega)
  replace d4 := d4.trans d3
  clear P1 M1 h3 d3 hg1 hy1 G2 F2 hx1
  show Code.wp _ _ _ _ _
  have M2 : Mw (bg []) [] W2 := ⟨rfl, trivial⟩
  refine wp_seq ?_
  refine wp_seq ?_
  refine regM_seq (N := 41) (T := TT) (n := 4) (E2 := [(0, .v (.slice A n c)), (1, .v (.slice (some ⟨kb, ko, none⟩) 32 kc)), (5, .v (.pointer (some ⟨w.heap.size, 0, none⟩))), (6, .v (.int .i64 (Go.bits .and .i64 (n : Int) (-32))))]) tabOk h4 M2 rfl (by kernel_rfl) ⟨by kernel_rfl, by kernel_rfl, by kernel_rfl, by kernel_rfl, trivial⟩ (fun a5 h5 d5 => ?_)
  show Code.wp _ _ _ _ _
  rw [andm32 n hn] at h5
  replace d5 := d5.trans d4
  clear h4 d4
  refine wp_seq ?_
  refine regM_seq (N := 41) (T := TT) (n := 2) (E2 := (20, .v (.bool (decide (((n / 32 * 32 : Nat) : Int) > 0)))) :: [(0, .v (.slice A n c)), (1, .v (.slice (some ⟨kb, ko, none⟩) 32 kc)), (5, .v (.pointer (some ⟨w.heap.size, 0, none⟩))), (6, .v (.int .i64 ((n / 32 * 32 : Nat) : Int)))]) tabOk h5 M2 rfl (by kernel_rfl) ⟨by kernel_rfl, by kernel_rfl, by kernel_rfl, by kernel_rfl, by kernel_rfl, trivial⟩ (fun a6 h6 d6 => ?_)
  show Code.wp _ _ _ _ _
  replace d6 := d6.trans d5
  clear h5 d5
  have hres : hvS y x n = (if n - n / 32 * 32 = 0 then updN (n / 32) (ini (keyN y)) x else hb (n - n / 32 * 32) (updN (n / 32) (ini (keyN y)) x) (fun i => if i < n - n / 32 * 32 then x (n / 32 * 32 + i) else 0)) := by
    rw [show n - n / 32 * 32 = n % 32 by omega]
    rfl
  rw [hres]
  clear hres
  by_cases h32 : 32 ≤ n
  · have hA1 := hA0 (by omega)
    subst hA1
    refine wp_cond_true ((h6.2 20 _ rfl).trans (congrArg Value.bool (decide_eq_true (by omega)))) ?_
    refine wp_seq ?_
    refine wp_region ?_
    refine ops_ (N := 41) (M := bm []) (T := TT) (E' := (22, .v (.int .i64 ((n / 32 * 32 : Nat) : Int))) :: (21, .v (.slice (some ⟨b, o, none⟩) n c)) :: (20, .v (.bool (decide (((n / 32 * 32 : Nat) : Int) > 0)))) :: [(0, .v (.slice (some ⟨b, o, none⟩) n c)), (1, .v (.slice (some ⟨kb, ko, none⟩) 32 kc)), (5, .v (.pointer (some ⟨w.heap.size, 0, none⟩))), (6, .v (.int .i64 ((n / 32 * 32 : Nat) : Int)))]) tabOk M2.mem [2, 3] [0, 1] (by kernel_rfl) h6 (fun a7 h7 d7 => ?_)
    refine given_ops (N := 41) (i := 2) (v := .slice (some ⟨b, o, none⟩) (n / 32 * 32) c) (l := [3]) rfl rfl rfl (by decide) h7 (op_slice rfl ?_) (fun a8 h8 d8 => ?_)
    · show (Instr.sliceAt _ (a7.eval (.tmp 21)) none (some (a7.eval (.tmp 22))) none).run _ _ = _
      rw [h7.2 21 _ rfl, h7.2 22 _ rfl]
      exact sl_to W2 b o n c (n / 32 * 32) (by omega) (by omega)
    have P2 := update_walk w.heap.size 92 (tl 16 (fun _ => .int .u64 0)) (ini (keyN y)) b o (n / 32 * 32) c x W2 (hg2.st (Nat.le_refl 16)) (Or.inl (hbn (by omega))) (by omega) (fun i hi => hx2 i (by omega))
    rw [show n / 32 * 32 / 32 = n / 32 by omega] at P2
    refine call_ops (N := 41) (i := 3) (d := 24) (f := 40) (args := [.v (.pointer (some ⟨w.heap.size, 0, none⟩)), .v (.slice (some ⟨b, o, none⟩) (n / 32 * 32) c)]) (l := []) rfl rfl rfl (by decide) h8 Tryd.func40 rfl rfl rfl (by kernel_rfl) (fun v W' => (⟨w.heap.size, 92, 16, stm (updN (n / 32) (ini (keyN y)) x) (fun _ => .int .u64 0)⟩ : Bl).In W' ∧ Fr [w.heap.size] W2 W') (P2.mono fun e W' hh => ⟨_, hh.1, St.bl (s := updN (n / 32) (ini (keyN y)) x) hh.2.1 (Nat.le_refl 16), hh.2.2⟩) (fun v W3 a9 hR h9 d9 => ?_)
    obtain ⟨hg3, G3⟩ := hR
    have h10 := sub_ok (E := [(0, .v (.slice (some ⟨b, o, none⟩) n c)), (1, .v (.slice (some ⟨kb, ko, none⟩) 32 kc)), (5, .v (.pointer (some ⟨w.heap.size, 0, none⟩))), (6, .v (.int .i64 ((n / 32 * 32 : Nat) : Int)))]) h9 ⟨by kernel_rfl, by kernel_rfl, by kernel_rfl, by kernel_rfl, trivial⟩
    have d10 : a9.defers = [] := d9.trans (d8.trans (d7.trans d6))
    have hx3 : Bts b o n x W3 := fun i hi => G3.cell (hx2 i hi) (by simp; exact hbn (by omega))
    have F4 : Fr [] w W3 := F3.comp G3 (fun k hk => by simp at hk; subst hk; right; omega)
    clear h6 h7 h8 h9 d6 d7 d8 d9 P2 G3 M2 hg2 hx2 F3
    show Code.wp _ _ _ _ _
    have M3 : Mw (bg []) [] W3 := ⟨rfl, trivial⟩
    refine wp_region ?_
    refine ops_ (N := 41) (M := bm []) (T := TT) (E' := (26, .v (.int .i64 ((n / 32 * 32 : Nat) : Int))) :: (25, .v (.slice (some ⟨b, o, none⟩) n c)) :: [(0, .v (.slice (some ⟨b, o, none⟩) n c)), (1, .v (.slice (some ⟨kb, ko, none⟩) 32 kc)), (5, .v (.pointer (some ⟨w.heap.size, 0, none⟩))), (6, .v (.int .i64 ((n / 32 * 32 : Nat) : Int)))]) tabOk M3.mem [2, 3] [0, 1] (by kernel_rfl) h10 (fun b1 g1 e1 => ?_)
    obtain ⟨A', hsl, hA'⟩ := sl_from W3 b o n c (n / 32 * 32) (by omega) hc
    refine given_ops (N := 41) (i := 2) (v := .slice A' (n - n / 32 * 32) (c - n / 32 * 32)) (l := [3]) rfl rfl rfl (by decide) g1 (op_slice rfl ?_) (fun b2 g2 e2 => ?_)
    · show (Instr.sliceAt _ (b1.eval (.tmp 25)) (some (b1.eval (.tmp 26))) none none).run _ _ = _
      rw [g1.2 25 _ rfl, g1.2 26 _ rfl]
      exact hsl
    refine ops_ (N := 41) (M := bm []) (T := TT) (E' := (0, .v (.slice A' (n - n / 32 * 32) (c - n / 32 * 32))) :: (27, .v (.slice A' (n - n / 32 * 32) (c - n / 32 * 32))) :: (26, .v (.int .i64 ((n / 32 * 32 : Nat) : Int))) :: (25, .v (.slice (some ⟨b, o, none⟩) n c)) :: [(0, .v (.slice (some ⟨b, o, none⟩) n c)), (1, .v (.slice (some ⟨kb, ko, none⟩) 32 kc)), (5, .v (.pointer (some ⟨w.heap.size, 0, none⟩))), (6, .v (.int .i64 ((n / 32 * 32 : Nat) : Int)))]) tabOk M3.mem [] [3] (by kernel_rfl) g2 (fun b3 g3 e3 => ?_)
    have g4 := sub_ok (E := [(0, .v (.slice A' (n - n / 32 * 32) (c - n / 32 * 32))), (5, .v (.pointer (some ⟨w.heap.size, 0, none⟩)))]) g3 ⟨by kernel_rfl, by kernel_rfl, trivial⟩
    show Code.wp _ _ _ _ _
    exact s8_9 w.heap.size (n - n / 32 * 32) (c - n / 32 * 32) b (o + n / 32 * 32) A' (updN (n / 32) (ini (keyN y)) x) (fun i => x (n / 32 * 32 + i)) (fun _ => .int .u64 0) w W3 b3 hg3 wW F4 (by omega) (fun hp => hA' (by omega)) (hx3.from (n / 32 * 32) (n - n / 32 * 32) (by omega)) g4 (e3.trans (e2.trans (e1.trans d10)))
  · refine wp_cond_false ((h6.2 20 _ rfl).trans (congrArg Value.bool (decide_eq_false (by omega)))) ?_
    refine wp_skip ?_
    show Code.wp _ _ _ _ _
    have h7 := sub_ok (E := [(0, .v (.slice A n c)), (5, .v (.pointer (some ⟨w.heap.size, 0, none⟩)))]) h6 ⟨by kernel_rfl, by kernel_rfl, trivial⟩
    have e0 : n / 32 = 0 := by omega
    rw [e0, Nat.zero_mul, Nat.sub_zero]
    exact s8_9 w.heap.size n c b o A (ini (keyN y)) (fun i => x (0 + i)) (fun _ => .int .u64 0) w W2 a6 hg2 wW F3 (by omega) hA0 (fun i hi => show W2.cell? _ = some (Value.int .u8 (x (0 + i))) from by rw [Nat.zero_add]; exact hx2 i hi) h7 d6
noncomputable def c16_13 : Code := match Tryd.f28.body with
  | some (.seq _ (.seq _ (.seq _ (.seq _ (.seq _ (.seq _ c)))))) => c
  | _ => .skip
noncomputable def c16_9 : Code := match Tryd.f28.body with
  | some (.seq _ (.seq _ (.seq _ (.seq _ (.seq _ c))))) => c
  | _ => .skip
def res16 (S : Nat → Int) : Value := .agg ((List.range 16).map (fin16 (mixN 6 S) (fun _ => .int .u8 0))).toArray
set_option maxHeartbeats 4000000 in
set_option maxRecDepth 100000 in
theorem s16_fin (g : Nat) (S : Nat → Int) (m : Nat → Value) (w W : World) (a : Act) (hs : (⟨g, 92, 16, stm S m⟩ : Bl).In W) (rg : Nat) (hr : (⟨rg, 69, 16, (fun _ => .int .u8 0)⟩ : Bl).In W) (hrg : w.heap.size ≤ rg) (hrs : rg ≠ g) (hg : w.heap.size ≤ g) (hF : Fr [] w W) (hA : Has 39 (bg []) [(5, .v (.pointer (some ⟨g, 0, none⟩))), (4, .v (.pointer (some ⟨rg, 0, none⟩)))] a) (hd : a.defers = []) :
    Code.wp Tryd.prog c16_13 (bodyPost Tryd.prog Tryd.f28 fun e w' => e = .returned (res16 (S)) ∧ Below w.heap.size w w') a W := by
  have M0 : Mw (bg []) [] W := ⟨rfl, trivial⟩
  have lW : g < W.heap.size := hs.lt
  have wW : w.heap.size ≤ W.heap.size := hF.size
  refine wp_seq ?_
  refine wp_region ?_
  refine alloc_ops (N := 39) (i := 0) (d := 9) (l := []) rfl rfl rfl (by decide) hA rfl allocOk69 (fun a1 hA1 hd1 => ?_)
  have F1 := (Fr.refl [] W).alloc (.cells (Array.replicate 16 (.int .u8 0)) 69)
  have hs1 := hs.on F1 (by simp)
  have hh1 := bl_rep0 W 16 (.int .u8 0) 69
  have hr1 := hr.on F1 (by simp)
  have lr : rg < W.heap.size := hr.lt
  have F2 := hF.trans F1
  clear hA hs F1 hF hr
  show Code.wp _ _ _ _ _
  generalize hW1 : W.alloc (.cells (Array.replicate 16 (.int .u8 0)) 69) = W1 at hs1 hh1 F2 hr1 ⊢
  clear hW1
  refine wp_seq ?_
  refine wp_region ?_
  refine given_ops (N := 39) (i := 0) (v := .slice (some ⟨W.heap.size, 0, none⟩) 16 16) (l := [1]) rfl rfl rfl (by decide) hA1 (op_slice rfl ?_) (fun a2 hA2 hd2 => ?_)
  · show (Instr.sliceAt _ (a1.eval (.tmp 9)) none none none).run _ _ = _
    rw [hA1.2 9 _ rfl]
    exact arr_all 69 _ 16 Tryd.underlying69 Tryd.sizeOf5 (by decide) W1 _ 0
  have P := finalize16_walk g 92 W.heap.size 69 16 S m (fun _ => .int .u8 0) W1 hs1 hh1 (by omega) (by decide)
  refine call_ops (N := 39) (i := 1) (d := 37) (f := 42) (args := [.v (.slice (some ⟨W.heap.size, 0, none⟩) 16 16), .v (.pointer (some ⟨g, 0, none⟩))]) (l := []) rfl rfl rfl (by decide) hA2 Tryd.func42 rfl rfl rfl (by kernel_rfl) (fun v W' => (⟨W.heap.size, 69, 16, fin16 (mixN 6 S) (fun _ => .int .u8 0)⟩ : Bl).In W' ∧ Fr [g, W.heap.size] W1 W') (P.mono fun e W' hh => ⟨_, hh.1, hh.2⟩) (fun v W2 a3 hR hA3 hd3 => ?_)
  obtain ⟨hh2, G2⟩ := hR
  have hr2 := hr1.on G2 (by simp; omega)
  have F3 : Fr [] w W2 := F2.comp G2 (fun k hk => by simp at hk; rcases hk with rfl | rfl <;> right <;> omega)
  have d3 : a3.defers = [] := hd3.trans (hd2.trans (hd1.trans hd))
  clear P G2 F2 hs1 hh1 hd1 hd2 hd3
  show Code.wp _ _ _ _ _
  refine wp_seq ?_
  have h4 := has_list (β := bg [⟨W.heap.size, 69, 16, fin16 (mixN 6 S) (fun _ => .int .u8 0)⟩]) (a := a3) hA3.1 (E := [(9, .p 0 0), (4, .v (.pointer (some ⟨rg, 0, none⟩)))]) ⟨hA3.2 9 _ rfl, hA3.2 4 _ rfl, trivial⟩
  have M4 : Mw (bg [⟨W.heap.size, 69, 16, fin16 (mixN 6 S) (fun _ => .int .u8 0)⟩]) [⟨W.heap.size, 69, 16, fin16 (mixN 6 S) (fun _ => .int .u8 0)⟩] W2 := ⟨rfl, hh2, by simp, trivial⟩
  refine wp_region ?_
  refine ops_ (N := 39) (M := bm [⟨W.heap.size, 69, 16, fin16 (mixN 6 S) (fun _ => .int .u8 0)⟩]) (T := TT) (E' := [(38, .v (.agg ((List.range 16).map (fin16 (mixN 6 S) (fun _ => .int .u8 0))).toArray)), (9, .p 0 0), (4, .v (.pointer (some ⟨rg, 0, none⟩)))]) tabOk M4.mem [1] [0] (by kernel_rfl) h4 (fun a5 h5 d5 => ?_)
  obtain ⟨cs, hr3, hr4, hr5⟩ := id hr2
  have hst := run_storeVar_row (P := Tryd.prog) W2 rg 69 69 cs ((List.range 16).map (fin16 (mixN 6 S) (fun _ => .int .u8 0))).toArray hr3 (by rw [List.size_toArray, List.length_map, List.length_range]; kernel_rfl) (by rw [hr4]; simp) (by
    rw [Array.all_eq_true_iff_forall_mem]
    intro v hv
    obtain ⟨j, hj, rfl⟩ : ∃ j, j < 16 ∧ fin16 (mixN 6 S) (fun _ => .int .u8 0) j = v := by simpa using hv
    exact one_fin16 (mixN 6 S) j hj)
  refine store_ops (N := 39) (i := 1) (l := []) (t := 69) rfl rfl rfl h5 (b := rg) (cs := ((List.range 16).map (fin16 (mixN 6 S) (fun _ => .int .u8 0))).toArray) (y := .tmp 38) (x := .tmp 4) rfl (h5.2 4 _ rfl) (h5.2 38 _ rfl) hst ?_
  show Code.wp _ _ _ _ _
  refine wp_ret ?_
  have hr6 : (⟨rg, 69, 16, fin16 (mixN 6 S) (fun _ => .int .u8 0)⟩ : Bl).In (W2.setRow rg ((List.range 16).map (fin16 (mixN 6 S) (fun _ => .int .u8 0))).toArray) := ⟨_, setRow_heap W2 rg cs _ 69 (0, 0) hr3, by simp, fun i hi => by
    have hi' : i < 16 := hi
    rw [List.getElem?_toArray, List.getElem?_map, List.getElem?_range hi']
    rfl⟩
  refine ⟨d5.trans d3, _, results_cell (b := ⟨rg, 69, 16, fin16 (mixN 6 S) (fun _ => .int .u8 0)⟩) rfl (h5.2 4 _ rfl) Tryd.isAgg69 Tryd.sizeOf69 hr6, rfl, (F3.comp ((Fr.refl [rg] W2).row rg (by simp) _) (fun k hk => by simp at hk; subst hk; right; exact hrg)).below _ (Nat.le_refl _) (by simp)⟩
set_option maxHeartbeats 4000000 in
set_option maxRecDepth 100000 in
theorem s16_9 (g r c b o : Nat) (A : Option Addr) (S z : Nat → Int) (m : Nat → Value) (w W : World) (a : Act) (hs : (⟨g, 92, 16, stm S m⟩ : Bl).In W) (rg : Nat) (hr : (⟨rg, 69, 16, (fun _ => .int .u8 0)⟩ : Bl).In W) (hrg : w.heap.size ≤ rg) (hrs : rg ≠ g) (hg : w.heap.size ≤ g) (hF : Fr [] w W) (hrn : r < 32) (hA0 : 0 < r → A = some ⟨b, o, none⟩) (hz : Bts b o r z W)
    (hA : Has 39 (bg []) [(0, .v (.slice A r c)), (5, .v (.pointer (some ⟨g, 0, none⟩))), (4, .v (.pointer (some ⟨rg, 0, none⟩)))] a) (hd : a.defers = []) :
    Code.wp Tryd.prog c16_9 (bodyPost Tryd.prog Tryd.f28 fun e w' => e = .returned (res16 (if r = 0 then S else hb r S (fun i => if i < r then z i else 0))) ∧ Below w.heap.size w w') a W := by
  have M0 : Mw (bg []) [] W := ⟨rfl, trivial⟩
  refine wp_seq ?_
  refine wp_seq ?_
  refine regM_seq (N := 39) (T := TT) (n := 3) (E2 := [(0, .v (.slice A r c)), (5, .v (.pointer (some ⟨g, 0, none⟩))), (4, .v (.pointer (some ⟨rg, 0, none⟩))), (30, .v (.bool (decide ((r : Int) > 0))))]) tabOk hA M0 rfl (by kernel_rfl) ⟨by kernel_rfl, by kernel_rfl, by kernel_rfl, by kernel_rfl, trivial⟩ (fun a1 h1 d1 => ?_)
  show Code.wp _ _ _ _ _
  replace d1 := d1.trans hd
  clear hA
  by_cases hr0 : r = 0
  · subst hr0
    refine wp_cond_false ((h1.2 30 _ rfl).trans (congrArg Value.bool (decide_eq_false (by omega)))) ?_
    refine wp_skip ?_
    show Code.wp _ _ _ _ _
    rw [if_pos rfl]
    exact s16_fin g S m w W a1 hs rg hr hrg hrs hg hF (sub_ok h1 ⟨by kernel_rfl, by kernel_rfl, trivial⟩) d1
  · have hrp : 0 < r := by omega
    obtain rfl := hA0 hrp
    refine wp_cond_true ((h1.2 30 _ rfl).trans (congrArg Value.bool (decide_eq_true (by omega)))) ?_
    refine wp_seq ?_
    refine wp_region ?_
    refine alloc_ops (N := 39) (i := 0) (d := 7) (l := []) rfl rfl rfl (by decide) h1 rfl allocOk71 (fun a2 h2 d2 => ?_)
    have lW : g < W.heap.size := hs.lt
    have lb : b < W.heap.size := World.block_lt_of_cell? W _ (hz 0 hrp)
    have wW : w.heap.size ≤ W.heap.size := hF.size
    have F1 := (Fr.refl [] W).alloc (.cells (Array.replicate 32 (.int .u8 0)) 71)
    have hs1 := hs.on F1 (by simp)
    have hz1 := hz.on F1 (by simp)
    have hh1 := bl_rep0 W 32 (.int .u8 0) 71
    have hr1 := hr.on F1 (by simp)
    have lr : rg < W.heap.size := hr.lt
    have F2 := hF.trans F1
    clear h1 hs F1 hF hz hr M0
    show Code.wp _ _ _ _ _
    generalize hW1 : W.alloc (.cells (Array.replicate 32 (.int .u8 0)) 71) = W1 at hs1 hh1 F2 hz1 hr1 ⊢
    clear hW1
    have M1 : Mw (bg []) [] W1 := ⟨rfl, trivial⟩
    refine wp_seq ?_
    refine wp_region ?_
    refine given_ops (N := 39) (i := 0) (v := .slice (some ⟨W.heap.size, 0, none⟩) 32 32) (l := [1, 2, 3]) rfl rfl rfl (by decide) h2 (op_slice rfl ?_) (fun a3 h3 d3 => ?_)
    · show (Instr.sliceAt _ (a2.eval (.tmp 7)) none none none).run _ _ = _
      rw [h2.2 7 _ rfl]
      exact arr_all 71 _ 32 Tryd.underlying71 Tryd.sizeOf5 (by decide) W1 _ 0
    refine ops_ (N := 39) (M := bm []) (T := TT) (E' := [(32, .v (.slice (some ⟨b, o, none⟩) r c)), (31, .v (.slice (some ⟨W.heap.size, 0, none⟩) 32 32)), (7, .v (.pointer (some ⟨W.heap.size, 0, none⟩))), (0, .v (.slice (some ⟨b, o, none⟩) r c)), (5, .v (.pointer (some ⟨g, 0, none⟩))), (4, .v (.pointer (some ⟨rg, 0, none⟩))), (30, .v (.bool (decide ((r : Int) > 0))))]) tabOk M1.mem [2, 3] [1] (by kernel_rfl) h3 (fun a4 h4 d4 => ?_)
    have C := fun ty => copy_in (P := Tryd.prog) hh1 0 32 32 b o r c r (fun j => .int .u8 (z j)) (Nat.min_eq_left (by omega)).symm (by show 0 + r ≤ 32; omega) hz1 (fun _ _ => rfl) 22 22 ty 5 Tryd.underlying22 (by kernel_rfl)
    refine copy_ops (N := 39) (i := 2) (d := 33) (t1 := 22) (t2 := 22) (sx := .v (.slice (some ⟨W.heap.size, 0, none⟩) 32 32)) (sy := .v (.slice (some ⟨b, o, none⟩) r c)) (v := goInt (r : Int)) (l := [3]) h4 (by kernel_rfl) (fun W' => (⟨W.heap.size, 71, 32, cpB (fun _ => .int .u8 0) 0 r (fun j => .int .u8 (z j))⟩ : Bl).In W' ∧ Fr [W.heap.size] W1 W') C (fun a5 W2 h5 d5 hR => ?_)
    obtain ⟨hh2, G2⟩ := hR
    have M2 : Mw (bg []) [] W2 := ⟨rfl, trivial⟩
    refine ops_ (N := 39) (M := bm []) (T := TT) (E' := (8, .v (goInt (r : Int))) :: (33, .v (goInt (r : Int))) :: [(32, .v (.slice (some ⟨b, o, none⟩) r c)), (31, .v (.slice (some ⟨W.heap.size, 0, none⟩) 32 32)), (7, .v (.pointer (some ⟨W.heap.size, 0, none⟩))), (0, .v (.slice (some ⟨b, o, none⟩) r c)), (5, .v (.pointer (some ⟨g, 0, none⟩))), (4, .v (.pointer (some ⟨rg, 0, none⟩))), (30, .v (.bool (decide ((r : Int) > 0))))]) tabOk M2.mem [] [3] (by kernel_rfl) h5 (fun a6 h6 d6 => ?_)
    have h7 := sub_ok (E := [(5, .v (.pointer (some ⟨g, 0, none⟩))), (7, .v (.pointer (some ⟨W.heap.size, 0, none⟩))), (8, .v (goInt (r : Int))), (4, .v (.pointer (some ⟨rg, 0, none⟩)))]) h6 ⟨by kernel_rfl, by kernel_rfl, by kernel_rfl, by kernel_rfl, trivial⟩
    have hs2 := hs1.on G2 (by simp; omega)
    have hr2 := hr1.on G2 (by simp; omega)
    have F3 : Fr [] w W2 := F2.comp G2 (fun k hk => by simp at hk; subst hk; right; omega)
    have d7 : a6.defers = [] := d6.trans (d5.trans (d4.trans (d3.trans (d2.trans d1))))
    clear h2 h3 h4 h5 h6 d1 d2 d3 d4 d5 d6 C M1 F2 hz1
    show Code.wp _ _ _ _ _
    have hh3 : (⟨W.heap.size, 71, 32, bufM 0 (fun i => if i < r then z i else 0) (fun _ => .int .u8 0)⟩ : Bl).In W2 := hh2.eq (fun i hi => by
      have hi' : i < 32 := hi
      show cpB (fun _ => .int .u8 0) 0 r (fun j => .int .u8 (z j)) i = bufM 0 (fun i => if i < r then z i else 0) (fun _ => .int .u8 0) i
      unfold cpB bufM
      rw [if_pos (show 0 ≤ i ∧ i < 0 + 32 by omega)]
      by_cases hir : i < r
      · rw [if_pos (by omega), Nat.sub_zero]
        simp [hir]
      · rw [if_neg (by omega), Nat.sub_zero]
        simp [hir])
    have P := hb_walk g 92 W.heap.size 71 r 0 32 (Nat.le_refl 32) S (fun i => if i < r then z i else 0) m (fun _ => .int .u8 0) W2 hrp hrn hs2 hh3 (by omega)
    refine regM_seq_call (N := 39) (T := TT) (n := 1) (f := 41) (d := 35) (args := [.v (.pointer (some ⟨g, 0, none⟩)), .v (.pointer (some ⟨W.heap.size, 0, none⟩)), .v (goInt (r : Int))]) (E2 := [(5, .v (.pointer (some ⟨g, 0, none⟩))), (4, .v (.pointer (some ⟨rg, 0, none⟩)))]) tabOk h7 M2 rfl (by kernel_rfl) Tryd.func41 rfl rfl (fun v W' => (⟨g, 92, 16, stm (hb r S (fun i => if i < r then z i else 0)) m⟩ : Bl).In W' ∧ Fr [g] W2 W') (P.mono fun e W' hh => ⟨_, hh.1, hh.2⟩) ⟨by kernel_rfl, by kernel_rfl, trivial⟩ rfl (fun a8 v8 W3 h8 d8 hR => ?_)
    obtain ⟨hs3, G3⟩ := hR
    show Code.wp _ _ _ _ _
    rw [if_neg hr0]
    exact s16_fin g (hb r S (fun i => if i < r then z i else 0)) m w W3 a8 hs3 rg (hr2.on G3 (by simp; exact hrs)) hrg hrs hg (F3.comp G3 (fun k hk => by simp at hk; subst hk; right; exact hg)) (sub_ok h8 ⟨by kernel_rfl, by kernel_rfl, trivial⟩) (d8.trans d7)
set_option maxHeartbeats 4000000 in
set_option maxRecDepth 100000 in
theorem sum16_walk (A : Option Addr) (b o n c kb ko kc : Nat) (x y : Nat → Int) (w : World) (hn : n < 9223372036854775808) (hc : n ≤ c) (hkc : 32 ≤ kc) (hA0 : 0 < n → A = some ⟨b, o, none⟩) (hx : Bts b o n x w) (hy : Bts kb ko 32 y w) :
    Calls Tryd.prog 28 #[.slice A n c, .slice (some ⟨kb, ko, none⟩) 32 kc] w fun e w' => e = .returned (res16 (hvS y x n)) ∧ Below w.heap.size w w' := by
  refine calls_of_wp Tryd.func28 rfl ?_
  have hA := has_two (β := bg []) (.v (.slice A n c)) (.v (.slice (some ⟨kb, ko, none⟩) 32 kc)) 37
  refine wp_seq ?_
  refine wp_region ?_
  refine alloc_ops (N := 39) (i := 0) (d := 4) (l := []) rfl rfl rfl (by decide) hA rfl allocOk69 (fun a0 h0 d0 => ?_)
  have F0 := (Fr.refl [] w).alloc (.cells (Array.replicate 16 (.int .u8 0)) 69)
  have hr := bl_rep0 w 16 (.int .u8 0) 69
  have hx0 := hx.on F0 (by simp)
  have hy0 := hy.on F0 (by simp)
  show Code.wp _ _ _ _ _
  generalize hW : w.alloc (.cells (Array.replicate 16 (.int .u8 0)) 69) = W0 at F0 hr hx0 hy0 ⊢
  clear hW hA
  replace d0 : a0.defers = [] := d0
  have wW : w.heap.size ≤ W0.heap.size := F0.size
  have lr : w.heap.size < W0.heap.size := hr.lt
  have M0 : Mw (bg []) [] W0 := ⟨rfl, trivial⟩
  refine wp_seq ?_
  refine wp_seq ?_
  refine regM_seq (N := 39) (T := TT) (n := 3) (E2 := [(4, .v (.pointer (some ⟨w.heap.size, 0, none⟩))), (0, .v (.slice A n c)), (1, .v (.slice (some ⟨kb, ko, none⟩) 32 kc)), (12, .v (.bool false))]) tabOk h0 M0 rfl (by kernel_rfl) ⟨by kernel_rfl, by kernel_rfl, by kernel_rfl, by kernel_rfl, trivial⟩ (fun a1 h1 d1 => ?_)
  show Code.wp _ _ _ _ _
  refine wp_cond_false (h1.2 12 _ rfl) (wp_skip ?_)
  show Code.wp _ _ _ _ _
  refine wp_seq ?_
  refine wp_region ?_
  refine alloc_ops (N := 39) (i := 0) (d := 5) (l := []) rfl rfl rfl (by decide) h1 rfl allocOk92 (fun a2 h2 d2 => ?_)
  have F1 := (Fr.refl [] W0).alloc (.cells (Array.replicate 16 (.int .u64 0)) 92)
  have hg1 := bl_rep0 W0 16 (.int .u64 0) 92
  have hx1 := hx0.on F1 (by simp)
  have hy1 := hy0.on F1 (by simp)
  have hr1 := hr.on F1 (by simp)
  have F2 := F0.trans F1
  have h3 := sub_ok (E := [(4, .v (.pointer (some ⟨w.heap.size, 0, none⟩))), (0, .v (.slice A n c)), (1, .v (.slice (some ⟨kb, ko, none⟩) 32 kc)), (5, .v (.pointer (some ⟨W0.heap.size, 0, none⟩)))]) h2 ⟨by kernel_rfl, by kernel_rfl, by kernel_rfl, by kernel_rfl, trivial⟩
  have d3 : a2.defers = [] := d2.trans (d1.trans d0)
  clear h0 h1 h2 d0 d1 d2 hx0 hy0 F1 M0
  show Code.wp _ _ _ _ _
  generalize hW : W0.alloc (.cells (Array.replicate 16 (.int .u64 0)) 92) = W1 at hg1 hx1 hy1 F2 hr1 ⊢
  clear hW
  have M1 : Mw (bg []) [] W1 := ⟨rfl, trivial⟩
  have P1 := initialize_walk W0.heap.size 92 0 kb ko kc y (fun _ => .int .u64 0) W1 hkc hg1 hy1
  refine wp_seq ?_
  refine regM_seq_call (N := 39) (T := TT) (n := 1) (f := 39) (d := 15) (args := [.v (.pointer (some ⟨W0.heap.size, 0, none⟩)), .v (.slice (some ⟨kb, ko, none⟩) 32 kc)]) (E2 := [(4, .v (.pointer (some ⟨w.heap.size, 0, none⟩))), (0, .v (.slice A n c)), (1, .v (.slice (some ⟨kb, ko, none⟩) 32 kc)), (5, .v (.pointer (some ⟨W0.heap.size, 0, none⟩)))]) tabOk h3 M1 rfl (by kernel_rfl) Tryd.func39 rfl rfl (fun v W' => (⟨W0.heap.size, 92, 0 + 16, stm (ini (keyN y)) (fun _ => .int .u64 0)⟩ : Bl).In W' ∧ Fr [W0.heap.size] W1 W') (P1.mono fun e W' hh => ⟨_, hh.1, hh.2⟩) ⟨by kernel_rfl, by kernel_rfl, by kernel_rfl, by kernel_rfl, trivial⟩ rfl (fun a4 v4 W2 h4 d4 hR => ?_)
  obtain ⟨hg2, G2⟩ := hR
  replace hg2 : (⟨W0.heap.size, 92, 16, stm (ini (keyN y)) (fun _ => .int .u64 0)⟩ : Bl).In W2 := hg2
  have hbn : 0 < n → b ≠ W0.heap.size := fun hp => by
    have h1 := World.block_lt_of_cell? w _ (hx 0 hp)
    have h2 : b < w.heap.size := h1
    omega
  have hx2 : Bts b o n x W2 := fun i hi => G2.cell (hx1 i hi) (by simp; exact hbn (by omega))
  have hr2 := hr1.on G2 (by simp; omega)
  have F3 : Fr [] w W2 := F2.comp G2 (fun k hk => by simp at hk; subst hk; right; omega)
  replace d4 := d4.trans d3
  clear P1 M1 h3 d3 hg1 hy1 G2 F2 hx1
  show Code.wp _ _ _ _ _
  have M2 : Mw (bg []) [] W2 := ⟨rfl, trivial⟩
  refine wp_seq ?_
  refine wp_seq ?_
  refine regM_seq (N := 39) (T := TT) (n := 4) (E2 := [(4, .v (.pointer (some ⟨w.heap.size, 0, none⟩))), (0, .v (.slice A n c)), (1, .v (.slice (some ⟨kb, ko, none⟩) 32 kc)), (5, .v (.pointer (some ⟨W0.heap.size, 0, none⟩))), (6, .v (.int .i64 (Go.bits .and .i64 (n : Int) (-32))))]) tabOk h4 M2 rfl (by kernel_rfl) ⟨by kernel_rfl, by kernel_rfl, by kernel_rfl, by kernel_rfl, by kernel_rfl, trivial⟩ (fun a5 h5 d5 => ?_)
  show Code.wp _ _ _ _ _
  rw [andm32 n hn] at h5
  replace d5 := d5.trans d4
  clear h4 d4
  refine wp_seq ?_
  refine regM_seq (N := 39) (T := TT) (n := 2) (E2 := (20, .v (.bool (decide (((n / 32 * 32 : Nat) : Int) > 0)))) :: [(4, .v (.pointer (some ⟨w.heap.size, 0, none⟩))), (0, .v (.slice A n c)), (1, .v (.slice (some ⟨kb, ko, none⟩) 32 kc)), (5, .v (.pointer (some ⟨W0.heap.size, 0, none⟩))), (6, .v (.int .i64 ((n / 32 * 32 : Nat) : Int)))]) tabOk h5 M2 rfl (by kernel_rfl) ⟨by kernel_rfl, by kernel_rfl, by kernel_rfl, by kernel_rfl, by kernel_rfl, by kernel_rfl, trivial⟩ (fun a6 h6 d6 => ?_)
  show Code.wp _ _ _ _ _
  replace d6 := d6.trans d5
  clear h5 d5
  have hres : hvS y x n = (if n - n / 32 * 32 = 0 then updN (n / 32) (ini (keyN y)) x else hb (n - n / 32 * 32) (updN (n / 32) (ini (keyN y)) x) (fun i => if i < n - n / 32 * 32 then x (n / 32 * 32 + i) else 0)) := by
    rw [show n - n / 32 * 32 = n % 32 by omega]
    rfl
  rw [hres]
  clear hres
  by_cases h32 : 32 ≤ n
  · have hA1 := hA0 (by omega)
    subst hA1
    refine wp_cond_true ((h6.2 20 _ rfl).trans (congrArg Value.bool (decide_eq_true (by omega)))) ?_
    refine wp_seq ?_
    refine wp_region ?_
    refine ops_ (N := 39) (M := bm []) (T := TT) (E' := (22, .v (.int .i64 ((n / 32 * 32 : Nat) : Int))) :: (21, .v (.slice (some ⟨b, o, none⟩) n c)) :: (20, .v (.bool (decide (((n / 32 * 32 : Nat) : Int) > 0)))) :: [(4, .v (.pointer (some ⟨w.heap.size, 0, none⟩))), (0, .v (.slice (some ⟨b, o, none⟩) n c)), (1, .v (.slice (some ⟨kb, ko, none⟩) 32 kc)), (5, .v (.pointer (some ⟨W0.heap.size, 0, none⟩))), (6, .v (.int .i64 ((n / 32 * 32 : Nat) : Int)))]) tabOk M2.mem [2, 3] [0, 1] (by kernel_rfl) h6 (fun a7 h7 d7 => ?_)
    refine given_ops (N := 39) (i := 2) (v := .slice (some ⟨b, o, none⟩) (n / 32 * 32) c) (l := [3]) rfl rfl rfl (by decide) h7 (op_slice rfl ?_) (fun a8 h8 d8 => ?_)
    · show (Instr.sliceAt _ (a7.eval (.tmp 21)) none (some (a7.eval (.tmp 22))) none).run _ _ = _
      rw [h7.2 21 _ rfl, h7.2 22 _ rfl]
      exact sl_to W2 b o n c (n / 32 * 32) (by omega) (by omega)
    have P2 := update_walk W0.heap.size 92 (tl 16 (fun _ => .int .u64 0)) (ini (keyN y)) b o (n / 32 * 32) c x W2 (hg2.st (Nat.le_refl 16)) (Or.inl (hbn (by omega))) (by omega) (fun i hi => hx2 i (by omega))
    rw [show n / 32 * 32 / 32 = n / 32 by omega] at P2
    refine call_ops (N := 39) (i := 3) (d := 24) (f := 40) (args := [.v (.pointer (some ⟨W0.heap.size, 0, none⟩)), .v (.slice (some ⟨b, o, none⟩) (n / 32 * 32) c)]) (l := []) rfl rfl rfl (by decide) h8 Tryd.func40 rfl rfl rfl (by kernel_rfl) (fun v W' => (⟨W0.heap.size, 92, 16, stm (updN (n / 32) (ini (keyN y)) x) (fun _ => .int .u64 0)⟩ : Bl).In W' ∧ Fr [W0.heap.size] W2 W') (P2.mono fun e W' hh => ⟨_, hh.1, St.bl (s := updN (n / 32) (ini (keyN y)) x) hh.2.1 (Nat.le_refl 16), hh.2.2⟩) (fun v W3 a9 hR h9 d9 => ?_)
    obtain ⟨hg3, G3⟩ := hR
    have h10 := sub_ok (E := [(4, .v (.pointer (some ⟨w.heap.size, 0, none⟩))), (0, .v (.slice (some ⟨b, o, none⟩) n c)), (1, .v (.slice (some ⟨kb, ko, none⟩) 32 kc)), (5, .v (.pointer (some ⟨W0.heap.size, 0, none⟩))), (6, .v (.int .i64 ((n / 32 * 32 : Nat) : Int)))]) h9 ⟨by kernel_rfl, by kernel_rfl, by kernel_rfl, by kernel_rfl, by kernel_rfl, trivial⟩
    have d10 : a9.defers = [] := d9.trans (d8.trans (d7.trans d6))
    have hx3 : Bts b o n x W3 := fun i hi => G3.cell (hx2 i hi) (by simp; exact hbn (by omega))
    have hr3 := hr2.on G3 (by simp; omega)
    have F4 : Fr [] w W3 := F3.comp G3 (fun k hk => by simp at hk; subst hk; right; omega)
    clear h6 h7 h8 h9 d6 d7 d8 d9 P2 G3 M2 hg2 hx2 F3
    show Code.wp _ _ _ _ _
    have M3 : Mw (bg []) [] W3 := ⟨rfl, trivial⟩
    refine wp_region ?_
    refine ops_ (N := 39) (M := bm []) (T := TT) (E' := (26, .v (.int .i64 ((n / 32 * 32 : Nat) : Int))) :: (25, .v (.slice (some ⟨b, o, none⟩) n c)) :: [(4, .v (.pointer (some ⟨w.heap.size, 0, none⟩))), (0, .v (.slice (some ⟨b, o, none⟩) n c)), (1, .v (.slice (some ⟨kb, ko, none⟩) 32 kc)), (5, .v (.pointer (some ⟨W0.heap.size, 0, none⟩))), (6, .v (.int .i64 ((n / 32 * 32 : Nat) : Int)))]) tabOk M3.mem [2, 3] [0, 1] (by kernel_rfl) h10 (fun b1 g1 e1 => ?_)
    obtain ⟨A', hsl, hA'⟩ := sl_from W3 b o n c (n / 32 * 32) (by omega) hc
    refine given_ops (N := 39) (i := 2) (v := .slice A' (n - n / 32 * 32) (c - n / 32 * 32)) (l := [3]) rfl rfl rfl (by decide) g1 (op_slice rfl ?_) (fun b2 g2 e2 => ?_)
    · show (Instr.sliceAt _ (b1.eval (.tmp 25)) (some (b1.eval (.tmp 26))) none none).run _ _ = _
      rw [g1.2 25 _ rfl, g1.2 26 _ rfl]
      exact hsl
    refine ops_ (N := 39) (M := bm []) (T := TT) (E' := (0, .v (.slice A' (n - n / 32 * 32) (c - n / 32 * 32))) :: (27, .v (.slice A' (n - n / 32 * 32) (c - n / 32 * 32))) :: (26, .v (.int .i64 ((n / 32 * 32 : Nat) : Int))) :: (25, .v (.slice (some ⟨b, o, none⟩) n c)) :: [(4, .v (.pointer (some ⟨w.heap.size, 0, none⟩))), (0, .v (.slice (some ⟨b, o, none⟩) n c)), (1, .v (.slice (some ⟨kb, ko, none⟩) 32 kc)), (5, .v (.pointer (some ⟨W0.heap.size, 0, none⟩))), (6, .v (.int .i64 ((n / 32 * 32 : Nat) : Int)))]) tabOk M3.mem [] [3] (by kernel_rfl) g2 (fun b3 g3 e3 => ?_)
    have g4 := sub_ok (E := [(0, .v (.slice A' (n - n / 32 * 32) (c - n / 32 * 32))), (5, .v (.pointer (some ⟨W0.heap.size, 0, none⟩))), (4, .v (.pointer (some ⟨w.heap.size, 0, none⟩)))]) g3 ⟨by kernel_rfl, by kernel_rfl, by kernel_rfl, trivial⟩
    show Code.wp _ _ _ _ _
    exact s16_9 W0.heap.size (n - n / 32 * 32) (c - n / 32 * 32) b (o + n / 32 * 32) A' (updN (n / 32) (ini (keyN y)) x) (fun i => x (n / 32 * 32 + i)) (fun _ => .int .u64 0) w W3 b3 hg3 w.heap.size hr3 (Nat.le_refl _) (by omega) wW F4 (by omega) (fun hp => hA' (by omega)) (hx3.from (n / 32 * 32) (n - n / 32 * 32) (by omega)) g4 (e3.trans (e2.trans (e1.trans d10)))
  · refine wp_cond_false ((h6.2 20 _ rfl).trans (congrArg Value.bool (decide_eq_false (by omega)))) ?_
    refine wp_skip ?_
    show Code.wp _ _ _ _ _
    have h7 := sub_ok (E := [(0, .v (.slice A n c)), (5, .v (.pointer (some ⟨W0.heap.size, 0, none⟩))), (4, .v (.pointer (some ⟨w.heap.size, 0, none⟩)))]) h6 ⟨by kernel_rfl, by kernel_rfl, by kernel_rfl, trivial⟩
    have e0 : n / 32 = 0 := by omega
    rw [e0, Nat.zero_mul, Nat.sub_zero]
    exact s16_9 W0.heap.size n c b o A (ini (keyN y)) (fun i => x (0 + i)) (fun _ => .int .u64 0) w W2 a6 hg2 w.heap.size hr2 (Nat.le_refl _) (by omega) wW F3 (by omega) hA0 (fun i hi => show W2.cell? _ = some (Value.int .u8 (x (0 + i))) from by rw [Nat.zero_add]; exact hx2 i hi) h7 d6
noncomputable def c32_13 : Code := match Tryd.f29.body with
  | some (.seq _ (.seq _ (.seq _ (.seq _ (.seq _ (.seq _ c)))))) => c
  | _ => .skip
noncomputable def c32_9 : Code := match Tryd.f29.body with
  | some (.seq _ (.seq _ (.seq _ (.seq _ (.seq _ c))))) => c
  | _ => .skip
def res32 (S : Nat → Int) : Value := .agg ((List.range 32).map (fin32 (mixN 10 S) (fun _ => .int .u8 0))).toArray
set_option maxHeartbeats 4000000 in
set_option maxRecDepth 100000 in
theorem s32_fin (g : Nat) (S : Nat → Int) (m : Nat → Value) (w W : World) (a : Act) (hs : (⟨g, 92, 16, stm S m⟩ : Bl).In W) (rg : Nat) (hr : (⟨rg, 71, 32, (fun _ => .int .u8 0)⟩ : Bl).In W) (hrg : w.heap.size ≤ rg) (hrs : rg ≠ g) (hg : w.heap.size ≤ g) (hF : Fr [] w W) (hA : Has 39 (bg []) [(5, .v (.pointer (some ⟨g, 0, none⟩))), (4, .v (.pointer (some ⟨rg, 0, none⟩)))] a) (hd : a.defers = []) :
    Code.wp Tryd.prog c32_13 (bodyPost Tryd.prog Tryd.f29 fun e w' => e = .returned (res32 (S)) ∧ Below w.heap.size w w') a W := by
  have M0 : Mw (bg []) [] W := ⟨rfl, trivial⟩
  have lW : g < W.heap.size := hs.lt
  have wW : w.heap.size ≤ W.heap.size := hF.size
  refine wp_seq ?_
  refine wp_region ?_
  refine alloc_ops (N := 39) (i := 0) (d := 9) (l := []) rfl rfl rfl (by decide) hA rfl allocOk71 (fun a1 hA1 hd1 => ?_)
  have F1 := (Fr.refl [] W).alloc (.cells (Array.replicate 32 (.int .u8 0)) 71)
  have hs1 := hs.on F1 (by simp)
  have hh1 := bl_rep0 W 32 (.int .u8 0) 71
  have hr1 := hr.on F1 (by simp)
  have lr : rg < W.heap.size := hr.lt
  have F2 := hF.trans F1
  clear hA hs F1 hF hr
  show Code.wp _ _ _ _ _
  generalize hW1 : W.alloc (.cells (Array.replicate 32 (.int .u8 0)) 71) = W1 at hs1 hh1 F2 hr1 ⊢
  clear hW1
  refine wp_seq ?_
  refine wp_region ?_
  refine given_ops (N := 39) (i := 0) (v := .slice (some ⟨W.heap.size, 0, none⟩) 32 32) (l := [1]) rfl rfl rfl (by decide) hA1 (op_slice rfl ?_) (fun a2 hA2 hd2 => ?_)
  · show (Instr.sliceAt _ (a1.eval (.tmp 9)) none none none).run _ _ = _
    rw [hA1.2 9 _ rfl]
    exact arr_all 71 _ 32 Tryd.underlying71 Tryd.sizeOf5 (by decide) W1 _ 0
  have P := finalize32_walk g 92 W.heap.size 71 32 S m (fun _ => .int .u8 0) W1 hs1 hh1 (by omega) (by decide)
  refine call_ops (N := 39) (i := 1) (d := 37) (f := 42) (args := [.v (.slice (some ⟨W.heap.size, 0, none⟩) 32 32), .v (.pointer (some ⟨g, 0, none⟩))]) (l := []) rfl rfl rfl (by decide) hA2 Tryd.func42 rfl rfl rfl (by kernel_rfl) (fun v W' => (⟨W.heap.size, 71, 32, fin32 (mixN 10 S) (fun _ => .int .u8 0)⟩ : Bl).In W' ∧ Fr [g, W.heap.size] W1 W') (P.mono fun e W' hh => ⟨_, hh.1, hh.2⟩) (fun v W2 a3 hR hA3 hd3 => ?_)
  obtain ⟨hh2, G2⟩ := hR
  have hr2 := hr1.on G2 (by simp; omega)
  have F3 : Fr [] w W2 := F2.comp G2 (fun k hk => by simp at hk; rcases hk with rfl | rfl <;> right <;> omega)
  have d3 : a3.defers = [] := hd3.trans (hd2.trans (hd1.trans hd))
  clear P G2 F2 hs1 hh1 hd1 hd2 hd3
  show Code.wp _ _ _ _ _
  refine wp_seq ?_
  have h4 := has_list (β := bg [⟨W.heap.size, 71, 32, fin32 (mixN 10 S) (fun _ => .int .u8 0)⟩]) (a := a3) hA3.1 (E := [(9, .p 0 0), (4, .v (.pointer (some ⟨rg, 0, none⟩)))]) ⟨hA3.2 9 _ rfl, hA3.2 4 _ rfl, trivial⟩
  have M4 : Mw (bg [⟨W.heap.size, 71, 32, fin32 (mixN 10 S) (fun _ => .int .u8 0)⟩]) [⟨W.heap.size, 71, 32, fin32 (mixN 10 S) (fun _ => .int .u8 0)⟩] W2 := ⟨rfl, hh2, by simp, trivial⟩
  refine wp_region ?_
  refine ops_ (N := 39) (M := bm [⟨W.heap.size, 71, 32, fin32 (mixN 10 S) (fun _ => .int .u8 0)⟩]) (T := TT) (E' := [(38, .v (.agg ((List.range 32).map (fin32 (mixN 10 S) (fun _ => .int .u8 0))).toArray)), (9, .p 0 0), (4, .v (.pointer (some ⟨rg, 0, none⟩)))]) tabOk M4.mem [1] [0] (by kernel_rfl) h4 (fun a5 h5 d5 => ?_)
  obtain ⟨cs, hr3, hr4, hr5⟩ := id hr2
  have hst := run_storeVar_row (P := Tryd.prog) W2 rg 71 71 cs ((List.range 32).map (fin32 (mixN 10 S) (fun _ => .int .u8 0))).toArray hr3 (by rw [List.size_toArray, List.length_map, List.length_range]; kernel_rfl) (by rw [hr4]; simp) (by
    rw [Array.all_eq_true_iff_forall_mem]
    intro v hv
    obtain ⟨j, hj, rfl⟩ : ∃ j, j < 32 ∧ fin32 (mixN 10 S) (fun _ => .int .u8 0) j = v := by simpa using hv
    exact one_fin32 (mixN 10 S) j hj)
  refine store_ops (N := 39) (i := 1) (l := []) (t := 71) rfl rfl rfl h5 (b := rg) (cs := ((List.range 32).map (fin32 (mixN 10 S) (fun _ => .int .u8 0))).toArray) (y := .tmp 38) (x := .tmp 4) rfl (h5.2 4 _ rfl) (h5.2 38 _ rfl) hst ?_
  show Code.wp _ _ _ _ _
  refine wp_ret ?_
  have hr6 : (⟨rg, 71, 32, fin32 (mixN 10 S) (fun _ => .int .u8 0)⟩ : Bl).In (W2.setRow rg ((List.range 32).map (fin32 (mixN 10 S) (fun _ => .int .u8 0))).toArray) := ⟨_, setRow_heap W2 rg cs _ 71 (0, 0) hr3, by simp, fun i hi => by
    have hi' : i < 32 := hi
    rw [List.getElem?_toArray, List.getElem?_map, List.getElem?_range hi']
    rfl⟩
  refine ⟨d5.trans d3, _, results_cell (b := ⟨rg, 71, 32, fin32 (mixN 10 S) (fun _ => .int .u8 0)⟩) rfl (h5.2 4 _ rfl) Tryd.isAgg71 Tryd.sizeOf71 hr6, rfl, (F3.comp ((Fr.refl [rg] W2).row rg (by simp) _) (fun k hk => by simp at hk; subst hk; right; exact hrg)).below _ (Nat.le_refl _) (by simp)⟩
set_option maxHeartbeats 4000000 in
set_option maxRecDepth 100000 in
theorem s32_9 (g r c b o : Nat) (A : Option Addr) (S z : Nat → Int) (m : Nat → Value) (w W : World) (a : Act) (hs : (⟨g, 92, 16, stm S m⟩ : Bl).In W) (rg : Nat) (hr : (⟨rg, 71, 32, (fun _ => .int .u8 0)⟩ : Bl).In W) (hrg : w.heap.size ≤ rg) (hrs : rg ≠ g) (hg : w.heap.size ≤ g) (hF : Fr [] w W) (hrn : r < 32) (hA0 : 0 < r → A = some ⟨b, o, none⟩) (hz : Bts b o r z W)
    (hA : Has 39 (bg []) [(0, .v (.slice A r c)), (5, .v (.pointer (some ⟨g, 0, none⟩))), (4, .v (.pointer (some ⟨rg, 0, none⟩)))] a) (hd : a.defers = []) :
    Code.wp Tryd.prog c32_9 (bodyPost Tryd.prog Tryd.f29 fun e w' => e = .returned (res32 (if r = 0 then S else hb r S (fun i => if i < r then z i else 0))) ∧ Below w.heap.size w w') a W := by
  have M0 : Mw (bg []) [] W := ⟨rfl, trivial⟩
  refine wp_seq ?_
  refine wp_seq ?_
  refine regM_seq (N := 39) (T := TT) (n := 3) (E2 := [(0, .v (.slice A r c)), (5, .v (.pointer (some ⟨g, 0, none⟩))), (4, .v (.pointer (some ⟨rg, 0, none⟩))), (30, .v (.bool (decide ((r : Int) > 0))))]) tabOk hA M0 rfl (by kernel_rfl) ⟨by kernel_rfl, by kernel_rfl, by kernel_rfl, by kernel_rfl, trivial⟩ (fun a1 h1 d1 => ?_)
  show Code.wp _ _ _ _ _
  replace d1 := d1.trans hd
  clear hA
  by_cases hr0 : r = 0
  · subst hr0
    refine wp_cond_false ((h1.2 30 _ rfl).trans (congrArg Value.bool (decide_eq_false (by omega)))) ?_
    refine wp_skip ?_
    show Code.wp _ _ _ _ _
    rw [if_pos rfl]
    exact s32_fin g S m w W a1 hs rg hr hrg hrs hg hF (sub_ok h1 ⟨by kernel_rfl, by kernel_rfl, trivial⟩) d1
  · have hrp : 0 < r := by omega
    obtain rfl := hA0 hrp
    refine wp_cond_true ((h1.2 30 _ rfl).trans (congrArg Value.bool (decide_eq_true (by omega)))) ?_
    refine wp_seq ?_
    refine wp_region ?_
    refine alloc_ops (N := 39) (i := 0) (d := 7) (l := []) rfl rfl rfl (by decide) h1 rfl allocOk71 (fun a2 h2 d2 => ?_)
    have lW : g < W.heap.size := hs.lt
    have lb : b < W.heap.size := World.block_lt_of_cell? W _ (hz 0 hrp)
    have wW : w.heap.size ≤ W.heap.size := hF.size
    have F1 := (Fr.refl [] W).alloc (.cells (Array.replicate 32 (.int .u8 0)) 71)
    have hs1 := hs.on F1 (by simp)
    have hz1 := hz.on F1 (by simp)
    have hh1 := bl_rep0 W 32 (.int .u8 0) 71
    have hr1 := hr.on F1 (by simp)
    have lr : rg < W.heap.size := hr.lt
    have F2 := hF.trans F1
    clear h1 hs F1 hF hz hr M0
    show Code.wp _ _ _ _ _
    generalize hW1 : W.alloc (.cells (Array.replicate 32 (.int .u8 0)) 71) = W1 at hs1 hh1 F2 hz1 hr1 ⊢
    clear hW1
    have M1 : Mw (bg []) [] W1 := ⟨rfl, trivial⟩
    refine wp_seq ?_
    refine wp_region ?_
    refine given_ops (N := 39) (i := 0) (v := .slice (some ⟨W.heap.size, 0, none⟩) 32 32) (l := [1, 2, 3]) rfl rfl rfl (by decide) h2 (op_slice rfl ?_) (fun a3 h3 d3 => ?_)
    · show (Instr.sliceAt _ (a2.eval (.tmp 7)) none none none).run _ _ = _
      rw [h2.2 7 _ rfl]
      exact arr_all 71 _ 32 Tryd.underlying71 Tryd.sizeOf5 (by decide) W1 _ 0
    refine ops_ (N := 39) (M := bm []) (T := TT) (E' := [(32, .v (.slice (some ⟨b, o, none⟩) r c)), (31, .v (.slice (some ⟨W.heap.size, 0, none⟩) 32 32)), (7, .v (.pointer (some ⟨W.heap.size, 0, none⟩))), (0, .v (.slice (some ⟨b, o, none⟩) r c)), (5, .v (.pointer (some ⟨g, 0, none⟩))), (4, .v (.pointer (some ⟨rg, 0, none⟩))), (30, .v (.bool (decide ((r : Int) > 0))))]) tabOk M1.mem [2, 3] [1] (by kernel_rfl) h3 (fun a4 h4 d4 => ?_)
    have C := fun ty => copy_in (P := Tryd.prog) hh1 0 32 32 b o r c r (fun j => .int .u8 (z j)) (Nat.min_eq_left (by omega)).symm (by show 0 + r ≤ 32; omega) hz1 (fun _ _ => rfl) 22 22 ty 5 Tryd.underlying22 (by kernel_rfl)
    refine copy_ops (N := 39) (i := 2) (d := 33) (t1 := 22) (t2 := 22) (sx := .v (.slice (some ⟨W.heap.size, 0, none⟩) 32 32)) (sy := .v (.slice (some ⟨b, o, none⟩) r c)) (v := goInt (r : Int)) (l := [3]) h4 (by kernel_rfl) (fun W' => (⟨W.heap.size, 71, 32, cpB (fun _ => .int .u8 0) 0 r (fun j => .int .u8 (z j))⟩ : Bl).In W' ∧ Fr [W.heap.size] W1 W') C (fun a5 W2 h5 d5 hR => ?_)
    obtain ⟨hh2, G2⟩ := hR
    have M2 : Mw (bg []) [] W2 := ⟨rfl, trivial⟩
    refine ops_ (N := 39) (M := bm []) (T := TT) (E' := (8, .v (goInt (r : Int))) :: (33, .v (goInt (r : Int))) :: [(32, .v (.slice (some ⟨b, o, none⟩) r c)), (31, .v (.slice (some ⟨W.heap.size, 0, none⟩) 32 32)), (7, .v (.pointer (some ⟨W.heap.size, 0, none⟩))), (0, .v (.slice (some ⟨b, o, none⟩) r c)), (5, .v (.pointer (some ⟨g, 0, none⟩))), (4, .v (.pointer (some ⟨rg, 0, none⟩))), (30, .v (.bool (decide ((r : Int) > 0))))]) tabOk M2.mem [] [3] (by kernel_rfl) h5 (fun a6 h6 d6 => ?_)
    have h7 := sub_ok (E := [(5, .v (.pointer (some ⟨g, 0, none⟩))), (7, .v (.pointer (some ⟨W.heap.size, 0, none⟩))), (8, .v (goInt (r : Int))), (4, .v (.pointer (some ⟨rg, 0, none⟩)))]) h6 ⟨by kernel_rfl, by kernel_rfl, by kernel_rfl, by kernel_rfl, trivial⟩
    have hs2 := hs1.on G2 (by simp; omega)
    have hr2 := hr1.on G2 (by simp; omega)
    have F3 : Fr [] w W2 := F2.comp G2 (fun k hk => by simp at hk; subst hk; right; omega)
    have d7 : a6.defers = [] := d6.trans (d5.trans (d4.trans (d3.trans (d2.trans d1))))
    clear h2 h3 h4 h5 h6 d1 d2 d3 d4 d5 d6 C M1 F2 hz1
    show Code.wp _ _ _ _ _
    have hh3 : (⟨W.heap.size, 71, 32, bufM 0 (fun i => if i < r then z i else 0) (fun _ => .int .u8 0)⟩ : Bl).In W2 := hh2.eq (fun i hi => by
      have hi' : i < 32 := hi
      show cpB (fun _ => .int .u8 0) 0 r (fun j => .int .u8 (z j)) i = bufM 0 (fun i => if i < r then z i else 0) (fun _ => .int .u8 0) i
      unfold cpB bufM
      rw [if_pos (show 0 ≤ i ∧ i < 0 + 32 by omega)]
      by_cases hir : i < r
      · rw [if_pos (by omega), Nat.sub_zero]
        simp [hir]
      · rw [if_neg (by omega), Nat.sub_zero]
        simp [hir])
    have P := hb_walk g 92 W.heap.size 71 r 0 32 (Nat.le_refl 32) S (fun i => if i < r then z i else 0) m (fun _ => .int .u8 0) W2 hrp hrn hs2 hh3 (by omega)
    refine regM_seq_call (N := 39) (T := TT) (n := 1) (f := 41) (d := 35) (args := [.v (.pointer (some ⟨g, 0, none⟩)), .v (.pointer (some ⟨W.heap.size, 0, none⟩)), .v (goInt (r : Int))]) (E2 := [(5, .v (.pointer (some ⟨g, 0, none⟩))), (4, .v (.pointer (some ⟨rg, 0, none⟩)))]) tabOk h7 M2 rfl (by kernel_rfl) Tryd.func41 rfl rfl (fun v W' => (⟨g, 92, 16, stm (hb r S (fun i => if i < r then z i else 0)) m⟩ : Bl).In W' ∧ Fr [g] W2 W') (P.mono fun e W' hh => ⟨_, hh.1, hh.2⟩) ⟨by kernel_rfl, by kernel_rfl, trivial⟩ rfl (fun a8 v8 W3 h8 d8 hR => ?_)
    obtain ⟨hs3, G3⟩ := hR
    show Code.wp _ _ _ _ _
    rw [if_neg hr0]
    exact s32_fin g (hb r S (fun i => if i < r then z i else 0)) m w W3 a8 hs3 rg (hr2.on G3 (by simp; exact hrs)) hrg hrs hg (F3.comp G3 (fun k hk => by simp at hk; subst hk; right; exact hg)) (sub_ok h8 ⟨by kernel_rfl, by kernel_rfl, trivial⟩) (d8.trans d7)
set_option maxHeartbeats 4000000 in
set_option maxRecDepth 100000 in
theorem sum32_walk (A : Option Addr) (b o n c kb ko kc : Nat) (x y : Nat → Int) (w : World) (hn : n < 9223372036854775808) (hc : n ≤ c) (hkc : 32 ≤ kc) (hA0 : 0 < n → A = some ⟨b, o, none⟩) (hx : Bts b o n x w) (hy : Bts kb ko 32 y w) :
    Calls Tryd.prog 29 #[.slice A n c, .slice (some ⟨kb, ko, none⟩) 32 kc] w fun e w' => e = .returned (res32 (hvS y x n)) ∧ Below w.heap.size w w' := by
  refine calls_of_wp Tryd.func29 rfl ?_
  have hA := has_two (β := bg []) (.v (.slice A n c)) (.v (.slice (some ⟨kb, ko, none⟩) 32 kc)) 37
  refine wp_seq ?_
  refine wp_region ?_
  refine alloc_ops (N := 39) (i := 0) (d := 4) (l := []) rfl rfl rfl (by decide) hA rfl allocOk71 (fun a0 h0 d0 => ?_)
  have F0 := (Fr.refl [] w).alloc (.cells (Array.replicate 32 (.int .u8 0)) 71)
  have hr := bl_rep0 w 32 (.int .u8 0) 71
  have hx0 := hx.on F0 (by simp)
  have hy0 := hy.on F0 (by simp)
  show Code.wp _ _ _ _ _
  generalize hW : w.alloc (.cells (Array.replicate 32 (.int .u8 0)) 71) = W0 at F0 hr hx0 hy0 ⊢
  clear hW hA
  replace d0 : a0.defers = [] := d0
  have wW : w.heap.size ≤ W0.heap.size := F0.size
  have lr : w.heap.size < W0.heap.size := hr.lt
  have M0 : Mw (bg []) [] W0 := ⟨rfl, trivial⟩
  refine wp_seq ?_
  refine wp_seq ?_
  refine regM_seq (N := 39) (T := TT) (n := 3) (E2 := [(4, .v (.pointer (some ⟨w.heap.size, 0, none⟩))), (0, .v (.slice A n c)), (1, .v (.slice (some ⟨kb, ko, none⟩) 32 kc)), (12, .v (.bool false))]) tabOk h0 M0 rfl (by kernel_rfl) ⟨by kernel_rfl, by kernel_rfl, by kernel_rfl, by kernel_rfl, trivial⟩ (fun a1 h1 d1 => ?_)
  show Code.wp _ _ _ _ _
  refine wp_cond_false (h1.2 12 _ rfl) (wp_skip ?_)
  show Code.wp _ _ _ _ _
  refine wp_seq ?_
  refine wp_region ?_
  refine alloc_ops (N := 39) (i := 0) (d := 5) (l := []) rfl rfl rfl (by decide) h1 rfl allocOk92 (fun a2 h2 d2 => ?_)
  have F1 := (Fr.refl [] W0).alloc (.cells (Array.replicate 16 (.int .u64 0)) 92)
  have hg1 := bl_rep0 W0 16 (.int .u64 0) 92
  have hx1 := hx0.on F1 (by simp)
  have hy1 := hy0.on F1 (by simp)
  have hr1 := hr.on F1 (by simp)
  have F2 := F0.trans F1
  have h3 := sub_ok (E := [(4, .v (.pointer (some ⟨w.heap.size, 0, none⟩))), (0, .v (.slice A n c)), (1, .v (.slice (some ⟨kb, ko, none⟩) 32 kc)), (5, .v (.pointer (some ⟨W0.heap.size, 0, none⟩)))]) h2 ⟨by kernel_rfl, by kernel_rfl, by kernel_rfl, by kernel_rfl, trivial⟩
  have d3 : a2.defers = [] := d2.trans (d1.trans d0)
  clear h0 h1 h2 d0 d1 d2 hx0 hy0 F1 M0
  show Code.wp _ _ _ _ _
  generalize hW : W0.alloc (.cells (Array.replicate 16 (.int .u64 0)) 92) = W1 at hg1 hx1 hy1 F2 hr1 ⊢
  clear hW
  have M1 : Mw (bg []) [] W1 := ⟨rfl, trivial⟩
  have P1 := initialize_walk W0.heap.size 92 0 kb ko kc y (fun _ => .int .u64 0) W1 hkc hg1 hy1
  refine wp_seq ?_
  refine regM_seq_call (N := 39) (T := TT) (n := 1) (f := 39) (d := 15) (args := [.v (.pointer (some ⟨W0.heap.size, 0, none⟩)), .v (.slice (some ⟨kb, ko, none⟩) 32 kc)]) (E2 := [(4, .v (.pointer (some ⟨w.heap.size, 0, none⟩))), (0, .v (.slice A n c)), (1, .v (.slice (some ⟨kb, ko, none⟩) 32 kc)), (5, .v (.pointer (some ⟨W0.heap.size, 0, none⟩)))]) tabOk h3 M1 rfl (by kernel_rfl) Tryd.func39 rfl rfl (fun v W' => (⟨W0.heap.size, 92, 0 + 16, stm (ini (keyN y)) (fun _ => .int .u64 0)⟩ : Bl).In W' ∧ Fr [W0.heap.size] W1 W') (P1.mono fun e W' hh => ⟨_, hh.1, hh.2⟩) ⟨by kernel_rfl, by kernel_rfl, by kernel_rfl, by kernel_rfl, trivial⟩ rfl (fun a4 v4 W2 h4 d4 hR => ?_)
  obtain ⟨hg2, G2⟩ := hR
  replace hg2 : (⟨W0.heap.size, 92, 16, stm (ini (keyN y)) (fun _ => .int .u64 0)⟩ : Bl).In W2 := hg2
  have hbn : 0 < n → b ≠ W0.heap.size := fun hp => by
    have h1 := World.block_lt_of_cell? w _ (hx 0 hp)
    have h2 : b < w.heap.size := h1
    omega
  have hx2 : Bts b o n x W2 := fun i hi => G2.cell (hx1 i hi) (by simp; exact hbn (by omega))
  have hr2 := hr1.on G2 (by simp; omega)
  have F3 : Fr [] w W2 := F2.comp G2 (fun k hk => by simp at hk; subst hk; right; omega)
  replace d4 := d4.trans d3
  clear P1 M1 h3 d3 hg1 hy1 G2 F2 hx1
  show Code.wp _ _ _ _ _
  have M2 : Mw (bg []) [] W2 := ⟨rfl, trivial⟩
  refine wp_seq ?_
  refine wp_seq ?_
  refine regM_seq (N := 39) (T := TT) (n := 4) (E2 := [(4, .v (.pointer (some ⟨w.heap.size, 0, none⟩))), (0, .v (.slice A n c)), (1, .v (.slice (some ⟨kb, ko, none⟩) 32 kc)), (5, .v (.pointer (some ⟨W0.heap.size, 0, none⟩))), (6, .v (.int .i64 (Go.bits .and .i64 (n : Int) (-32))))]) tabOk h4 M2 rfl (by kernel_rfl) ⟨by kernel_rfl, by kernel_rfl, by kernel_rfl, by kernel_rfl, by kernel_rfl, trivial⟩ (fun a5 h5 d5 => ?_)
  show Code.wp _ _ _ _ _
  rw [andm32 n hn] at h5
  replace d5 := d5.trans d4
  clear h4 d4
  refine wp_seq ?_
  refine regM_seq (N := 39) (T := TT) (n := 2) (E2 := (20, .v (.bool (decide (((n / 32 * 32 : Nat) : Int) > 0)))) :: [(4, .v (.pointer (some ⟨w.heap.size, 0, none⟩))), (0, .v (.slice A n c)), (1, .v (.slice (some ⟨kb, ko, none⟩) 32 kc)), (5, .v (.pointer (some ⟨W0.heap.size, 0, none⟩))), (6, .v (.int .i64 ((n / 32 * 32 : Nat) : Int)))]) tabOk h5 M2 rfl (by kernel_rfl) ⟨by kernel_rfl, by kernel_rfl, by kernel_rfl, by kernel_rfl, by kernel_rfl, by kernel_rfl, trivial⟩ (fun a6 h6 d6 => ?_)
  show Code.wp _ _ _ _ _
  replace d6 := d6.trans d5
  clear h5 d5
  have hres : hvS y x n = (if n - n / 32 * 32 = 0 then updN (n / 32) (ini (keyN y)) x else hb (n - n / 32 * 32) (updN (n / 32) (ini (keyN y)) x) (fun i => if i < n - n / 32 * 32 then x (n / 32 * 32 + i) else 0)) := by
    rw [show n - n / 32 * 32 = n % 32 by omega]
    rfl
  rw [hres]
  clear hres
  by_cases h32 : 32 ≤ n
  · have hA1 := hA0 (by omega)
    subst hA1
    refine wp_cond_true ((h6.2 20 _ rfl).trans (congrArg Value.bool (decide_eq_true (by omega)))) ?_
    refine wp_seq ?_
    refine wp_region ?_
    refine ops_ (N := 39) (M := bm []) (T := TT) (E' := (22, .v (.int .i64 ((n / 32 * 32 : Nat) : Int))) :: (21, .v (.slice (some ⟨b, o, none⟩) n c)) :: (20, .v (.bool (decide (((n / 32 * 32 : Nat) : Int) > 0)))) :: [(4, .v (.pointer (some ⟨w.heap.size, 0, none⟩))), (0, .v (.slice (some ⟨b, o, none⟩) n c)), (1, .v (.slice (some ⟨kb, ko, none⟩) 32 kc)), (5, .v (.pointer (some ⟨W0.heap.size, 0, none⟩))), (6, .v (.int .i64 ((n / 32 * 32 : Nat) : Int)))]) tabOk M2.mem [2, 3] [0, 1] (by kernel_rfl) h6 (fun a7 h7 d7 => ?_)
    refine given_ops (N := 39) (i := 2) (v := .slice (some ⟨b, o, none⟩) (n / 32 * 32) c) (l := [3]) rfl rfl rfl (by decide) h7 (op_slice rfl ?_) (fun a8 h8 d8 => ?_)
    · show (Instr.sliceAt _ (a7.eval (.tmp 21)) none (some (a7.eval (.tmp 22))) none).run _ _ = _
      rw [h7.2 21 _ rfl, h7.2 22 _ rfl]
      exact sl_to W2 b o n c (n / 32 * 32) (by omega) (by omega)
    have P2 := update_walk W0.heap.size 92 (tl 16 (fun _ => .int .u64 0)) (ini (keyN y)) b o (n / 32 * 32) c x W2 (hg2.st (Nat.le_refl 16)) (Or.inl (hbn (by omega))) (by omega) (fun i hi => hx2 i (by omega))
    rw [show n / 32 * 32 / 32 = n / 32 by omega] at P2
    refine call_ops (N := 39) (i := 3) (d := 24) (f := 40) (args := [.v (.pointer (some ⟨W0.heap.size, 0, none⟩)), .v (.slice (some ⟨b, o, none⟩) (n / 32 * 32) c)]) (l := []) rfl rfl rfl (by decide) h8 Tryd.func40 rfl rfl rfl (by kernel_rfl) (fun v W' => (⟨W0.heap.size, 92, 16, stm (updN (n / 32) (ini (keyN y)) x) (fun _ => .int .u64 0)⟩ : Bl).In W' ∧ Fr [W0.heap.size] W2 W') (P2.mono fun e W' hh => ⟨_, hh.1, St.bl (s := updN (n / 32) (ini (keyN y)) x) hh.2.1 (Nat.le_refl 16), hh.2.2⟩) (fun v W3 a9 hR h9 d9 => ?_)
    obtain ⟨hg3, G3⟩ := hR
    have h10 := sub_ok (E := [(4, .v (.pointer (some ⟨w.heap.size, 0, none⟩))), (0, .v (.slice (some ⟨b, o, none⟩) n c)), (1, .v (.slice (some ⟨kb, ko, none⟩) 32 kc)), (5, .v (.pointer (some ⟨W0.heap.size, 0, none⟩))), (6, .v (.int .i64 ((n / 32 * 32 : Nat) : Int)))]) h9 ⟨by kernel_rfl, by kernel_rfl, by kernel_rfl, by kernel_rfl, by kernel_rfl, trivial⟩
    have d10 : a9.defers = [] := d9.trans (d8.trans (d7.trans d6))
    have hx3 : Bts b o n x W3 := fun i hi => G3.cell (hx2 i hi) (by simp; exact hbn (by omega))
    have hr3 := hr2.on G3 (by simp; omega)
    have F4 : Fr [] w W3 := F3.comp G3 (fun k hk => by simp at hk; subst hk; right; omega)
    clear h6 h7 h8 h9 d6 d7 d8 d9 P2 G3 M2 hg2 hx2 F3
    show Code.wp _ _ _ _ _
    have M3 : Mw (bg []) [] W3 := ⟨rfl, trivial⟩
    refine wp_region ?_
    refine ops_ (N := 39) (M := bm []) (T := TT) (E' := (26, .v (.int .i64 ((n / 32 * 32 : Nat) : Int))) :: (25, .v (.slice (some ⟨b, o, none⟩) n c)) :: [(4, .v (.pointer (some ⟨w.heap.size, 0, none⟩))), (0, .v (.slice (some ⟨b, o, none⟩) n c)), (1, .v (.slice (some ⟨kb, ko, none⟩) 32 kc)), (5, .v (.pointer (some ⟨W0.heap.size, 0, none⟩))), (6, .v (.int .i64 ((n / 32 * 32 : Nat) : Int)))]) tabOk M3.mem [2, 3] [0, 1] (by kernel_rfl) h10 (fun b1 g1 e1 => ?_)
    obtain ⟨A', hsl, hA'⟩ := sl_from W3 b o n c (n / 32 * 32) (by omega) hc
    refine given_ops (N := 39) (i := 2) (v := .slice A' (n - n / 32 * 32) (c - n / 32 * 32)) (l := [3]) rfl rfl rfl (by decide) g1 (op_slice rfl ?_) (fun b2 g2 e2 => ?_)
    · show (Instr.sliceAt _ (b1.eval (.tmp 25)) (some (b1.eval (.tmp 26))) none none).run _ _ = _
      rw [g1.2 25 _ rfl, g1.2 26 _ rfl]
      exact hsl
    refine ops_ (N := 39) (M := bm []) (T := TT) (E' := (0, .v (.slice A' (n - n / 32 * 32) (c - n / 32 * 32))) :: (27, .v (.slice A' (n - n / 32 * 32) (c - n / 32 * 32))) :: (26, .v (.int .i64 ((n / 32 * 32 : Nat) : Int))) :: (25, .v (.slice (some ⟨b, o, none⟩) n c)) :: [(4, .v (.pointer (some ⟨w.heap.size, 0, none⟩))), (0, .v (.slice (some ⟨b, o, none⟩) n c)), (1, .v (.slice (some ⟨kb, ko, none⟩) 32 kc)), (5, .v (.pointer (some ⟨W0.heap.size, 0, none⟩))), (6, .v (.int .i64 ((n / 32 * 32 : Nat) : Int)))]) tabOk M3.mem [] [3] (by kernel_rfl) g2 (fun b3 g3 e3 => ?_)
    have g4 := sub_ok (E := [(0, .v (.slice A' (n - n / 32 * 32) (c - n / 32 * 32))), (5, .v (.pointer (some ⟨W0.heap.size, 0, none⟩))), (4, .v (.pointer (some ⟨w.heap.size, 0, none⟩)))]) g3 ⟨by kernel_rfl, by kernel_rfl, by kernel_rfl, trivial⟩
    show Code.wp _ _ _ _ _
    exact s32_9 W0.heap.size (n - n / 32 * 32) (c - n / 32 * 32) b (o + n / 32 * 32) A' (updN (n / 32) (ini (keyN y)) x) (fun i => x (n / 32 * 32 + i)) (fun _ => .int .u64 0) w W3 b3 hg3 w.heap.size hr3 (Nat.le_refl _) (by omega) wW F4 (by omega) (fun hp => hA' (by omega)) (hx3.from (n / 32 * 32) (n - n / 32 * 32) (by omega)) g4 (e3.trans (e2.trans (e1.trans d10)))
  · refine wp_cond_false ((h6.2 20 _ rfl).trans (congrArg Value.bool (decide_eq_false (by omega)))) ?_
    refine wp_skip ?_
    show Code.wp _ _ _ _ _
    have h7 := sub_ok (E := [(0, .v (.slice A n c)), (5, .v (.pointer (some ⟨W0.heap.size, 0, none⟩))), (4, .v (.pointer (some ⟨w.heap.size, 0, none⟩)))]) h6 ⟨by kernel_rfl, by kernel_rfl, by kernel_rfl, trivial⟩
    have e0 : n / 32 = 0 := by omega
    rw [e0, Nat.zero_mul, Nat.sub_zero]
    exact s32_9 W0.heap.size n c b o A (ini (keyN y)) (fun i => x (0 + i)) (fun _ => .int .u64 0) w W2 a6 hg2 w.heap.size hr2 (Nat.le_refl _) (by omega) wW F3 (by omega) hA0 (fun i hi => show W2.cell? _ = some (Value.int .u8 (x (0 + i))) from by rw [Nat.zero_add]; exact hx2 i hi) h7 d6
end Go.Proofs.YtnehminojlocoaaDoor.PAll
namespace Go.Proofs.YtnehminojlocoaaDoor.PAll
open Go.RowKit Go.Proofs.YtnehminojlocoaaDoorW.PrintWords Go.Proofs.YtnehminojlocoaaDoorW.PrintLast Go.Proofs.YtnehminojlocoaaDoorW.PrintMore
set_option linter.unusedVariables false
set_option linter.unusedSimpArgs false
/-- The published steps mix two numbers: the lower one, the higher one. -/
def pLo (one zero : Int) : Int := ((spec_zipped.f one zero).getD (0, 0)).2
def pHi (one zero : Int) : Int := ((spec_zipped.f one zero).getD (0, 0)).1
def q1 (s : Nat → Int) (i : Nat) (l : Int) : Nat → Int := upd s (4 + i) (IntKind.u64.wrap (s (4 + i) + IntKind.u64.wrap (s (8 + i) + l)))
def q2 (s : Nat → Int) (i : Nat) : Nat → Int := upd s (8 + i) (Go.bits .xor .u64 (s (8 + i)) (IntKind.u64.wrap (Go.bits .and .u64 (s (4 + i)) 4294967295 * (s i / 4294967296))))
def q3 (s : Nat → Int) (i : Nat) : Nat → Int := upd s i (IntKind.u64.wrap (s i + s (12 + i)))
def q4 (s : Nat → Int) (i : Nat) : Nat → Int := upd s (12 + i) (Go.bits .xor .u64 (s (12 + i)) (IntKind.u64.wrap (Go.bits .and .u64 (s i) 4294967295 * (s (4 + i) / 4294967296))))
def q5 (s : Nat → Int) (f t i : Nat) : Nat → Int := zs (zs s (t + (i + 1)) (pHi (s (f + (i + 1))) (s (f + i)))) (t + i) (pLo (s (f + (i + 1))) (s (f + i)))
def qr (s : Nat → Int) (i : Nat) (l : Int) : Nat → Int := q4 (q3 (q2 (q1 s i l) i) i) i
/-- A state takes in four numbers, by the published steps. -/
def US (s : Nat → Int) (l : Nat → Int) : Nat → Int := q5 (q5 (q5 (q5 (qr (qr (qr (qr s 0 (l 0)) 1 (l 1)) 2 (l 2)) 3 (l 3)) 4 0 0) 4 0 2) 0 4 0) 0 4 2
noncomputable def up1 : Code := match Tryd.f36.body with
  | some (.seq _ c) => c
  | _ => .skip
end Go.Proofs.YtnehminojlocoaaDoor.PAll
namespace Go.Proofs.YtnehminojlocoaaDoor.PAll
open Go.RowKit Go.Proofs.YtnehminojlocoaaDoorW.PrintWords Go.Proofs.YtnehminojlocoaaDoorW.PrintLast Go.Proofs.YtnehminojlocoaaDoorW.PrintMore
set_option linter.unusedVariables false
set_option linter.unusedSimpArgs false
/-- Eight octets as a number, the lowest first. -/
def N8 (x : Nat → Int) : Int := x 0 + x 1 * 256 + x 2 * 65536 + x 3 * 16777216 + x 4 * 4294967296 + x 5 * 1099511627776 + x 6 * 281474976710656 + x 7 * 72057594037927936
def Oct (n : Nat) (x : Nat → Int) : Prop := ∀ i, i < n → 0 ≤ x i ∧ x i < 256
theorem Oct.from {n : Nat} {x : Nat → Int} (h : Oct n x) (k m : Nat) (hk : k + m ≤ n) : Oct m (fun i => x (k + i)) := fun i hi => h (k + i) (by omega)
theorem or_int (s x m q : Int) (n : Nat) (hs : 0 ≤ s) (hn : s < ((2 ^ n : Nat) : Int)) (hq : 0 ≤ q) (hx : q * ((2 ^ n : Nat) : Int) = x) (hx2 : x + s < 18446744073709551616) (hm : x + s = m) : Go.bits .or .u64 s x = m := by
  obtain ⟨s, rfl⟩ := Int.eq_ofNat_of_zero_le hs
  obtain ⟨q, rfl⟩ := Int.eq_ofNat_of_zero_le hq
  have hs' : s < 2 ^ n := by omega
  have e : x = ((q * 2 ^ n : Nat) : Int) := by rw [← hx, Int.natCast_mul]
  subst e
  rw [u64_or_nat s (q * 2 ^ n) (by omega) (by omega), ← hm]
  have h6 := Nat.two_pow_add_eq_or_of_lt hs' q
  rw [Nat.or_comm, Nat.mul_comm q, ← h6]
  omega
theorem w64 (x : Int) (h0 : 0 ≤ x) (h1 : x < 18446744073709551616) : IntKind.u64.wrap x = x := by
  rw [IntKind.wrap_u64]
  omega
theorem le8_law (x : Nat → Int) (h : Oct 8 x) : le8 x = N8 x := by
  have h0 := h 0 (by decide)
  have h1 := h 1 (by decide)
  have h2 := h 2 (by decide)
  have h3 := h 3 (by decide)
  have h4 := h 4 (by decide)
  have h5 := h 5 (by decide)
  have h6 := h 6 (by decide)
  have h7 := h 7 (by decide)
  unfold le8 N8
  generalize x 0 = a0 at *
  generalize x 1 = a1 at *
  generalize x 2 = a2 at *
  generalize x 3 = a3 at *
  generalize x 4 = a4 at *
  generalize x 5 = a5 at *
  generalize x 6 = a6 at *
  generalize x 7 = a7 at *
  clear h
  rw [w64 a0 (by omega) (by omega), w64 a1 (by omega) (by omega), w64 a2 (by omega) (by omega), w64 a3 (by omega) (by omega), w64 a4 (by omega) (by omega), w64 a5 (by omega) (by omega), w64 a6 (by omega) (by omega), w64 a7 (by omega) (by omega)]
  rw [w64 (a1 * 256) (by omega) (by omega), w64 (a2 * 65536) (by omega) (by omega), w64 (a3 * 16777216) (by omega) (by omega), w64 (a4 * 4294967296) (by omega) (by omega), w64 (a5 * 1099511627776) (by omega) (by omega), w64 (a6 * 281474976710656) (by omega) (by omega), w64 (a7 * 72057594037927936) (by omega) (by omega)]
  rw [or_int a0 (a1 * 256) _ a1 8 (by omega) (by omega) (by omega) (by omega) (by omega) rfl]
  rw [or_int _ (a2 * 65536) _ a2 16 (by omega) (by omega) (by omega) (by omega) (by omega) rfl]
  rw [or_int _ (a3 * 16777216) _ a3 24 (by omega) (by omega) (by omega) (by omega) (by omega) rfl]
  rw [or_int _ (a4 * 4294967296) _ a4 32 (by omega) (by omega) (by omega) (by omega) (by omega) rfl]
  rw [or_int _ (a5 * 1099511627776) _ a5 40 (by omega) (by omega) (by omega) (by omega) (by omega) rfl]
  rw [or_int _ (a6 * 281474976710656) _ a6 48 (by omega) (by omega) (by omega) (by omega) (by omega) rfl]
  rw [or_int _ (a7 * 72057594037927936) _ a7 56 (by omega) (by omega) (by omega) (by omega) (by omega) rfl]
  omega
end Go.Proofs.YtnehminojlocoaaDoor.PAll
namespace Go.Proofs.YtnehminojlocoaaDoor.PAll
open Go.RowKit Go.Proofs.YtnehminojlocoaaDoorW.PrintWords Go.Proofs.YtnehminojlocoaaDoorW.PrintLast Go.Proofs.YtnehminojlocoaaDoorW.PrintMore
set_option linter.unusedVariables false
set_option linter.unusedSimpArgs false
section
variable {P : Program} {ops : Array Oper} {Q : Exit → Act → World → Prop} {S : World → Prop} {ds : List Nat} {N : Nat} {β : Nat → Nat} {M : Nat → Nat → Option Value} {T : TypeId → Option Ty}
/-- A step whose value is shown by hand. -/
theorem segV {i d fuel : Nat} {o : Oper} {s : SV} {L : Array Bool} {E : List (Nat × SV)} {a : Act} {w : World} (hQ : ∀ c (a a' : Act) w, a'.defers = a.defers → Q (.panic c) a w → Q (.panic c) a' w) (hS : S w) (hA : Has N β E a)
    (ho : ops[i]? = some o) (hg : o.guard = none) (hd : o.dst = some d) (hN : d < N) (hc : takeB .any ops ds L (L.setIfInBounds i true) i = true) (hrun : ∀ W, S W → (execOp a.eval o).run P W = .ok (.value (s.den β)) W)
    (h : ∀ a', Has N β ((d, s) :: E) a' → a'.defers = a.defers → wpAnyLast P .any ops Q S ds fuel (L.setIfInBounds i true) a' w) : wpAnyLast P .any ops Q S ds (fuel + 1) L a w :=
  take_ (i := i) (N := some d) (v := s.den β) (a' := a.put (some d) (s.den β)) _ ho hd hc (fun c a w h => hQ c _ _ w (put_defs _ _ _).symm h) (Or.inl ⟨want_ hg, hrun⟩) hS rfl (h _ (hA.put d hN s) (put_defs _ _ _))
/-- Pure steps. -/
theorem segP (hT : TabOk P T) (hM : ∀ W, S W → MemOk β M W) (hQ : ∀ c (a a' : Act) w, a'.defers = a.defers → Q (.panic c) a w → Q (.panic c) a' w) {w : World} (hS : S w) (l : List Nat) (fuel : Nat) (E2 : List (Nat × SV)) {L : Array Bool} {E : List (Nat × SV)} {a : Act} (hA : Has N β E a)
    (hB : schedB ops ds l L = true) (hs : (evs N T M ops l E).isSome = true) (hsub : Sub (evs N T M ops l E) E2)
    (h : ∀ a', Has N β E2 a' → a'.defers = a.defers → wpAnyLast P .any ops Q S ds fuel (marks l L) a' w) : wpAnyLast P .any ops Q S ds (fuel + l.length) L a w := by
  obtain ⟨E', he⟩ := Option.isSome_iff_exists.1 hs
  rw [he] at hsub
  exact seg_ hT hM hQ hS l hB he hA (fun a' h1 h2 => h a' (sub_ok h1 hsub) h2)
/-- The end. -/
theorem segE {L : Array Bool} {a : Act} {w : World} {n : Nat} (hr : (Region.ready .any ops L == []) = true) (h : Q .normal a w) : wpAnyLast P .any ops Q S ds n L a w := done_ hr h
/-- The last step: a call that may write. -/
theorem lastC {j d f fuel : Nat} {args : List SV} {fn : Func} {L : Array Bool} {E : List (Nat × SV)} {a : Act} {w : World} (hA : Has N β E a)
    (hB : (readyB .any ops L (L.setIfInBounds j true) j && (ds.contains j && (Region.ready .any ops (L.setIfInBounds j true) == []))) = true) (hcl : clV N ops j (some E) = some (f, d, args)) (hf : P.funcs[f]? = some fn) (hname : (fn.name == "runtime.NumGoroutine") = false) (hb : fn.body.isSome = true)
    (R : Value → World → Prop) (hC : Calls P f (args.map (SV.den β)).toArray w fun e W' => ∃ v, e = .returned v ∧ R v W')
    (h : ∀ a' v W, Has N β ((d, .v v) :: E) a' → a'.defers = a.defers → R v W → Q .normal a' W) : wpAnyLast P .any ops Q S ds (fuel + 1) L a w := by
  simp only [Bool.and_eq_true, List.contains_eq_mem, decide_eq_true_eq] at hB
  obtain ⟨hB2, hB6, hB4⟩ := hB
  obtain ⟨E1, o1, he1, ho1, hg1, hd1, hN1, xs0, ts, hop1, hargs⟩ := clV_ok hcl
  obtain rfl := Option.some.inj he1
  refine last_ (i := j) (N := some d) _ ho1 hd1 hB2 hB6 (fun K hK => ?_)
  exact call_if hg1 hd1 hN1 hA hf hname hb hop1 hargs R hC (fun v W' a2 hR h3 h4 => hK.out _ _ (done_ hB4 (h a2 v W' h3 h4 hR)))
/-- A composite of an array or a record. -/
theorem op_build {ρ : Operand → Value} {o : Oper} {W : World} {t : TypeId} {parts : Array (Nat × Operand)} {cells : Array Value} (ho : o.op = .build t parts) (h : P.built t (parts.map fun (i, x) => (i, ρ x)).toList = some cells) : (execOp ρ o).run P W = .ok (.value (.agg cells)) W := by
  unfold execOp
  simp only [ho, Sem.run_bind, run_build W t _ cells h, Result.andThen_ok]
  rfl
/-- The parts of a composite, as the walk knows them. -/
def partL (E : List (Nat × SV)) : List (Nat × Operand) → Option (List (Nat × Value))
  | [] => some []
  | (i, x) :: l => match evO E x, partL E l with
    | some (.v s), some r => some ((i, s) :: r)
    | _, _ => none
theorem partL_ok {E : List (Nat × SV)} {a : Act} (hA : Has N β E a) : ∀ {l : List (Nat × Operand)} {r : List (Nat × Value)}, partL E l = some r → l.map (fun (i, x) => (i, a.eval x)) = r
  | [], r, h => by obtain rfl := Option.some.inj h; rfl
  | (i, x) :: l, r, h => by
    unfold partL at h
    split at h
    · next s r' h1 h2 =>
      obtain rfl := Option.some.inj h
      show (i, a.eval x) :: List.map (fun (i, x) => (i, a.eval x)) l = _
      rw [partL_ok hA h2, evO_ok hA h1]
      rfl
    · cases h
/-- Which composite an operation builds, into which slot. -/
def buV (P : Program) (N : Nat) (ops : Array Oper) (j : Nat) (r : Option (List (Nat × SV))) : Option (Nat × Array Value) :=
  match r, ops[j]? with
  | some E, some o => match o.op, o.guard, o.dst with
    | .build t ps, none, some d => match Nat.blt d N, (partL E ps.toList).bind (P.built t) with
      | true, some cs => some (d, cs)
      | _, _ => none
    | _, _, _ => none
  | _, _ => none
theorem buV_ok {j d : Nat} {cs : Array Value} {r : Option (List (Nat × SV))} (h : buV P N ops j r = some (d, cs)) : ∃ E o, r = some E ∧ ops[j]? = some o ∧ o.guard = none ∧ o.dst = some d ∧ d < N ∧ ∀ (a : Act) (W : World), Has N β E a → (execOp a.eval o).run P W = .ok (.value (.agg cs)) W := by
  unfold buV at h
  split at h
  · next E o ho =>
    split at h
    · next t ps d0 hop hg hd =>
      split at h
      · next cs' hN hcs =>
        simp only [Option.some.injEq, Prod.mk.injEq] at h
        obtain ⟨rfl, rfl⟩ := h
        obtain ⟨r', hr', hb⟩ := Option.bind_eq_some_iff.1 hcs
        refine ⟨E, o, rfl, ho, hg, hd, Eq.mp Nat.blt_eq hN, fun a W hA => op_build hop ?_⟩
        rw [Array.toList_map, partL_ok hA hr']
        exact hb
      · cases h
    · cases h
  · cases h
theorem build_ops {i d : Nat} {cs : Array Value} {l : List Nat} {a : Act} {w : World} {E : List (Nat × SV)} (hA : Has N β E a) (hbu : buV P N ops i (some E) = some (d, cs))
    (h : ∀ a', Has N β ((d, .v (.agg cs)) :: E) a' → a'.defers = a.defers → wpOps P ops Q l a' w) : wpOps P ops Q (i :: l) a w := by
  obtain ⟨E1, o, he, ho, hg, hd, hN, hrun⟩ := buV_ok (β := β) hbu
  obtain rfl := Option.some.inj he
  exact given_ops ho hg hd hN hA (hrun a w hA) h
end
section
variable {P : Program} {ops : Array Oper} {Q : Exit → Act → World → Prop} {S : World → Prop} {ds : List Nat} {N : Nat} {β : Nat → Nat} {M : Nat → Nat → Option Value} {T : TypeId → Option Ty}
/-- Which function a call calls that is held in a slot. -/
def ctV (N : Nat) (ops : Array Oper) (j : Nat) (r : Option (List (Nat × SV))) : Option (Nat × Nat × List SV) :=
  match r, ops[j]? with
  | some E, some o => match o.op, o.guard, o.dst with
    | .call c, none, some d => match c.callee, Nat.blt d N with
      | .value (.tmp t), true => match look E t with
        | some (.v (.func (.func f) ⟨[]⟩ ⟨[]⟩)) => (argL E c.args.toList).map fun l => (f, d, l)
        | _ => none
      | _, _ => none
    | _, _, _ => none
  | _, _ => none
end
end Go.Proofs.YtnehminojlocoaaDoor.PAll
namespace Go.Proofs.YtnehminojlocoaaDoor.PAll
open Go.RowKit Go.Proofs.YtnehminojlocoaaDoorW.PrintWords Go.Proofs.YtnehminojlocoaaDoorW.PrintLast Go.Proofs.YtnehminojlocoaaDoorW.PrintMore
set_option linter.unusedVariables false
set_option linter.unusedSimpArgs false
/-- Number i of a text. -/
def lan (x : Nat → Int) (i : Nat) : Int := N8 (fun j => x (8 * i + j))
theorem noMem {β : Nat → Nat} {W : World} : MemOk β (fun _ _ => none) W := fun _ _ _ h => by cases h
theorem has_one {β : Nat → Nat} (x0 : SV) (k : Nat) : Has (1 + k) β [(0, x0)] ⟨#[x0.den β] ++ Array.replicate k undef, []⟩ := by
  refine has_list (by simp) ⟨?_, trivial⟩
  show ((#[x0.den β] ++ Array.replicate k undef).getD 0 undef) = _
  rw [Array.getD_eq_getD_getElem?, Array.getElem?_append_left (by simp)]
  rfl
/-- A number's halves, turned. -/
def half (n : Int) : Int := Go.bits .or .u64 (n / 4294967296) (IntKind.u64.wrap (n * 4294967296))
/-- The numbers that a state takes in of its own. -/
def own4 (s : Nat → Int) (i : Nat) : Int := half (s ((i + 2) % 4))
end Go.Proofs.YtnehminojlocoaaDoor.PAll
namespace Go.Proofs.YtnehminojlocoaaDoor.PAll
open Go.RowKit Go.Proofs.YtnehminojlocoaaDoorW.PrintWords Go.Proofs.YtnehminojlocoaaDoorW.PrintLast Go.Proofs.YtnehminojlocoaaDoorW.PrintMore
set_option linter.unusedVariables false
set_option linter.unusedSimpArgs false
/-- A state before its key. -/
def k0n (i : Nat) : Int := if i < 8 then 0 else if i < 12 then I0 (i - 8) else I1 (i - 12)
/-- The published state at the beginning. -/
def newH (k : Nat → Int) (i : Nat) : Int := if i < 4 then Go.bits .xor .u64 (I0 i) (k i) else if i < 8 then Go.bits .xor .u64 (I1 (i - 4)) (half (k (i - 4))) else if i < 12 then I0 (i - 8) else I1 (i - 12)
def zz : Nat → Value := fun _ => .int .u64 0
noncomputable def nh2 : Code := match Tryd.f19.body with
  | some (.seq _ (.seq _ c)) => c
  | _ => .skip
end Go.Proofs.YtnehminojlocoaaDoor.PAll
namespace Go.Proofs.YtnehminojlocoaaDoor.PAll
open Go.RowKit Go.Proofs.YtnehminojlocoaaDoorW.PrintWords Go.Proofs.YtnehminojlocoaaDoorW.PrintLast Go.Proofs.YtnehminojlocoaaDoorW.PrintMore
set_option linter.unusedVariables false
set_option linter.unusedSimpArgs false
section
variable {P : Program} {ops : Array Oper} {Q : Exit → Act → World → Prop} {S : World → Prop} {ds : List Nat} {N : Nat} {β : Nat → Nat} {M : Nat → Nat → Option Value} {T : TypeId → Option Ty}
/-- The last step: a store. -/
theorem lastS {n k i fuel : Nat} {u : Value} {L : Array Bool} {E : List (Nat × SV)} {a : Act} {w : World} (hT : TabOk P T) (hA : Has N β E a)
    (hB : (readyB .any ops L (L.setIfInBounds n true) n && (ds.contains n && (Region.ready .any ops (L.setIfInBounds n true) == []))) = true) (hst : stV T ops n (some E) = some (k, i, u)) (hc : ∃ v, w.cell? ⟨β k, i, none⟩ = some v) (hf : w.frozen? ⟨β k, i, none⟩ = false)
    (h : Q .normal a (w.setCell ⟨β k, i, none⟩ u)) : wpAnyLast P .any ops Q S ds (fuel + 1) L a w := by
  simp only [Bool.and_eq_true, List.contains_eq_mem, decide_eq_true_eq] at hB
  obtain ⟨hB2, hB6, hB4⟩ := hB
  obtain ⟨E', o, he, ho, hg, hd, hrun⟩ := stV_ok (P := P) (β := β) (N := N) hst
  obtain rfl := Option.some.inj he
  refine last_ (i := n) (N := none) _ ho hd hB2 hB6 (fun K hK => ?_)
  exact skip_ (want_ hg) hd (hrun a w hT hA hc hf) (hK.out _ _ (done_ hB4 h))
/-- An element's place in a slice. -/
theorem op_indexSl {o : Oper} {ρ : Operand → Value} {W : World} {t e : TypeId} {x ix : Operand} {b i n c j : Nat} (ho : o.op = .indexAddr t x ix) (hx : ρ x = .slice (some ⟨b, i, none⟩) n c) (hi : ρ ix = .int .i64 (j : Int)) (ht : P.underlying t = some (.slice e)) (hs : ∀ w, (Go.sizeOf e).run P w = .ok 1 w) (hj : j < n) :
    (execOp ρ o).run P W = .ok (.value (.pointer (some ⟨b, i + j, none⟩))) W := by
  unfold execOp
  rw [ho]
  simp [go_sem, Instr.indexAt, hx, hi, und ht, hs, hj, Addr.add]
/-- A new slice. -/
theorem op_make {o : Oper} {ρ : Operand → Value} {W : World} {t e : TypeId} {x y : Operand} {n : Nat} {i : TypeInfo} {z : Value} (ho : o.op = .makeSlice t x y) (hx : ρ x = .int .i64 (n : Int)) (hy : ρ y = .int .i64 (n : Int)) (ht : P.underlying t = some (.slice e)) (hi : P.info? e = some i) (hz : i.zero = some z) (hb : (i.bytes : Int) * (n : Int) ≤ 281474976710656) (h63 : (n : Int) ≤ 9223372036854775807) :
    (execOp ρ o).run P W = .ok (.value (.slice (some ⟨W.heap.size, 0, none⟩) n n)) (W.alloc (.cells (madeCells z.cells (n * i.size)) e)) := by
  have hr := run_make (P := P) (w := W) t e i z ht hi hz .i64 .i64 (n : Int) (n : Int) (by omega) (Int.le_refl _) hb h63
  rw [Int.toNat_natCast] at hr
  unfold execOp
  rw [ho]
  simp only [hx, hy, Sem.run_bind, hr, Result.andThen_ok]
  rfl
end
section
variable {P : Program} {ops : Array Oper} {Q : Exit → Act → World → Prop} {N : Nat} {β : Nat → Nat}
/-- An operation that makes something new, its value shown by hand. -/
theorem new_ops {i d : Nat} {o : Oper} {v : Value} {l : List Nat} {a : Act} {w w1 : World} {E : List (Nat × SV)} (ho : ops[i]? = some o) (hg : o.guard = none) (hd : o.dst = some d) (hN : d < N) (hA : Has N β E a) (hrun : (execOp a.eval o).run P w = .ok (.value v) w1)
    (h : ∀ a', Has N β ((d, .v v) :: E) a' → a'.defers = a.defers → wpOps P ops Q l a' w1) : wpOps P ops Q (i :: l) a w := by
  unfold wpOps
  simp only [ho]
  rw [if_pos (want_ hg)]
  refine Or.inl ?_
  unfold Oper.wp
  rw [hrun, Oper.upon_value, hd]
  exact h _ (hA.put d hN (.v v)) rfl
theorem givenS_ops {i d : Nat} {o : Oper} {s : SV} {l : List Nat} {a : Act} {w : World} {E : List (Nat × SV)} (ho : ops[i]? = some o) (hg : o.guard = none) (hd : o.dst = some d) (hN : d < N) (hA : Has N β E a) (hrun : (execOp a.eval o).run P w = .ok (.value (s.den β)) w)
    (h : ∀ a', Has N β ((d, s) :: E) a' → a'.defers = a.defers → wpOps P ops Q l a' w) : wpOps P ops Q (i :: l) a w := by
  unfold wpOps
  simp only [ho]
  rw [if_pos (want_ hg)]
  refine Or.inl ?_
  unfold Oper.wp
  rw [hrun, Oper.upon_value, hd]
  exact h _ (hA.put d hN s) rfl
end
/-- A number of 32 bits, turned. -/
def tv (a n : Int) : Int := Go.bits .or .u32 (shl .u32 a n) (shr .u32 a (wrap64 (32 - n)))
end Go.Proofs.YtnehminojlocoaaDoor.PAll
namespace Go.Proofs.YtnehminojlocoaaDoor.PAll
open Go.RowKit Go.Proofs.YtnehminojlocoaaDoorW.PrintWords Go.Proofs.YtnehminojlocoaaDoorW.PrintLast Go.Proofs.YtnehminojlocoaaDoorW.PrintMore
set_option linter.unusedVariables false
set_option linter.unusedSimpArgs false
noncomputable def rem7 : Code := match Tryd.f22.body with
  | some (.seq _ (.seq _ c)) => c
  | _ => .skip
noncomputable def rem10 : Code := match Tryd.f22.body with
  | some (.seq _ (.seq _ (.seq _ (.seq _ (.seq _ c))))) => c
  | _ => .skip
noncomputable def rem14 : Code := match Tryd.f22.body with
  | some (.seq _ (.seq _ (.seq _ (.seq _ (.seq _ (.seq _ c)))))) => c
  | _ => .skip
def rA (n : Nat) : Int := IntKind.u64.wrap (IntKind.u64.wrap (IntKind.u64.wrap (n : Int) * 4294967296) + IntKind.u64.wrap (n : Int))
def rB (v : Int) (n : Nat) : Int := Go.bits .or .u64 (IntKind.u64.wrap (IntKind.u64.wrap (tv (IntKind.u32.wrap (v / 4294967296)) n) * 4294967296)) (IntKind.u64.wrap (tv (IntKind.u32.wrap v) n))
/-- A state ahead of the rest of a text. -/
def trR (s : Nat → Int) (n : Nat) (i : Nat) : Int := if i < 4 then IntKind.u64.wrap (s i + rA n) else if i < 8 then rB (s i) n else s i
/-- The rest of a text, laid into 32 octets. -/
def rall (n : Nat) (x : Nat → Int) (i : Nat) : Int :=
  if 16 ≤ n then (if 28 ≤ i then x (n - 4 + (i - 28)) else if i < n / 4 * 4 then x i else 0)
  else if n % 4 = 0 then (if i < n / 4 * 4 then x i else 0)
  else if i = 16 then x (n / 4 * 4) else if i = 17 then x (n / 4 * 4 + n % 4 / 2) else if i = 18 then x (n / 4 * 4 + (n % 4 - 1)) else if i < n / 4 * 4 then x i else 0
/-- A state takes in the rest of a text. -/
def remS (s : Nat → Int) (n : Nat) (x : Nat → Int) : Nat → Int := US (trR s n) (lan (rall n x))
/-- A new slice of literal size. -/
theorem op_mk {P : Program} {o : Oper} {ρ : Operand → Value} {W : World} {t e : TypeId} {x y : Operand} {n bt : Nat} {cs : Array Value} (ho : o.op = .makeSlice t x y) (hx : ρ x = .int .i64 (n : Int)) (hy : ρ y = .int .i64 (n : Int)) (ht : P.underlying t = some (.slice e))
    (hm : ((P.info? e).bind fun i => i.zero.map fun z => (madeCells z.cells (n * i.size), i.bytes)) = some (cs, bt)) (hb : bt * n ≤ 281474976710656) (h63 : (n : Int) ≤ 9223372036854775807) :
    (execOp ρ o).run P W = .ok (.value (.slice (some ⟨W.heap.size, 0, none⟩) n n)) (W.alloc (.cells cs e)) := by
  obtain ⟨i, hi, h2⟩ := Option.bind_eq_some_iff.1 hm
  obtain ⟨z, hz, h3⟩ := Option.map_eq_some_iff.1 h2
  simp only [Prod.mk.injEq] at h3
  obtain ⟨rfl, rfl⟩ := h3
  exact op_make ho hx hy ht hi hz (by rw [← Int.natCast_mul]; omega) h63
end Go.Proofs.YtnehminojlocoaaDoor.PAll
