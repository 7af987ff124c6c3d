/- TxtB: HtShort, HtPair, HtFmt0, HtFmt6, HtFmt7, HtFmt8, HtFmt9, HtSet, HtPush. -/
import Derived.Test.YtmgnffklmdhooaaDoorTxtA
namespace Go.Proofs.YtmgnffklmdhooaaDoor.PAll
open Go.RowKit Go.Proofs.YtmgnffklmdhooaaDoorW.PrintWords Go.Proofs.YtmgnffklmdhooaaDoorW.PrintLast Go.Proofs.YtmgnffklmdhooaaDoorW.PrintMore
set_option linter.unusedVariables false
set_option linter.unusedSimpArgs false
theorem sc_In {g : Nat} {a b c : Int} {W : World} (h : (⟨g, 78, 3, scV a b c⟩ : Bl).In W) : W.heap[g]? = some (.cells #[.int .u64 a, .int .u64 b, .int .i64 c] 78 (0, 0)) := by
  obtain ⟨cs, h1, h2, h3⟩ := h
  have e : cs = #[.int .u64 a, .int .u64 b, .int .i64 c] := by
    apply Array.ext_getElem?
    intro i
    by_cases hi : i < 3
    · rw [h3 i hi]
      match i, hi with
      | 0, _ => rfl
      | 1, _ => rfl
      | 2, _ => rfl
    · have hs : cs.size = 3 := h2
      rw [Array.getElem?_eq_none (by omega), Array.getElem?_eq_none (by simp; omega)]
  rw [← e]
  exact h1
theorem In_sc {g : Nat} {a b c : Int} {W : World} (h : W.heap[g]? = some (.cells #[.int .u64 a, .int .u64 b, .int .i64 c] 78 (0, 0))) : (⟨g, 78, 3, scV a b c⟩ : Bl).In W :=
  ⟨_, h, rfl, fun i hi => by
    have hi3 : i < 3 := hi
    match i, hi3 with
    | 0, _ => rfl
    | 1, _ => rfl
    | 2, _ => rfl⟩
theorem uscale_walk (x a b c r : Int) (g : Nat) (w0 W : World) (hg : (⟨g, 78, 3, scV a b c⟩ : Bl).In W) (hge : w0.heap.size ≤ g) (hB : Below w0.heap.size w0 W) (h : strconv_uscale.f x a b c = some (r, a, b, c)) :
    Calls Tryd.prog 50 #[.int .u64 x, .pointer (some ⟨g, 0, none⟩)] W fun e w' => e = .returned (.int .u64 r) ∧ (⟨g, 78, 3, scV a b c⟩ : Bl).In w' ∧ Below w0.heap.size w0 w' :=
  (strconv_uscale.calls x g a b c r a b c w0 W ⟨sc_In hg, hge⟩ hB h).mono fun e w' hh => ⟨hh.1, In_sc hh.2.1.1, hh.2.2.1⟩
/-- The least and the greatest number that stand for the float, its power of ten. -/
def sfP (m e : Int) : Option Int := if m = 9223372036854775808 then strconv_skewed.f (IntKind.i64.wrap (e + 40)) else strconv_log10Pow2.f (IntKind.i64.wrap (e + 40))
def sfMin (m : Int) : Int := if m = 9223372036854775808 then IntKind.u64.wrap (m - 274877906944) else IntKind.u64.wrap (m - 549755813888)
def sfMax (m : Int) : Int := IntKind.u64.wrap (m + 549755813888)
def us (x : Int) (p : Nat) (S : Int) : Option Int := (strconv_uscale.f x ((pHi p : Nat) : Int) 0 S).bind fun y => if y.2.1 = ((pHi p : Nat) : Int) ∧ y.2.2.1 = 0 ∧ y.2.2.2 = S then some y.1 else none
theorem us_some {x : Int} {p : Nat} {S r : Int} (h : us x p S = some r) : strconv_uscale.f x ((pHi p : Nat) : Int) 0 S = some (r, ((pHi p : Nat) : Int), 0, S) := by
  unfold us at h
  obtain ⟨⟨a, b, c, d⟩, h1, h2⟩ := Option.bind_eq_some_iff.1 h
  rw [h1]
  simp only at h2
  split at h2
  · next e =>
    obtain ⟨rfl, rfl, rfl⟩ := e
    obtain rfl := Option.some.inj h2
    rfl
  · cases h2
/-- shortFloat's digits and power, for a number whose last bits are noughts. -/
def sfC (m e : Int) : Option (Int × Int) :=
  (sfP m e).bind fun r =>
    let p := (IntKind.i64.wrap (0 - r)).toNat
    if IntKind.i64.wrap (0 - r) = (p : Int) ∧ 3 ≤ p ∧ p ≤ 15 ∧ -189 < e ∧ Go.bits .and .i64 (IntKind.i64.wrap (m / 1099511627776)) 1 = 0 then
      (strconv_log2Pow10.f (p : Int)).bind fun lp => (us (sfMin m) p (scS e lp)).bind fun a => (us (sfMax m) p (scS e lp)).bind fun b =>
        (strconv_unrounded_nudge.f a 0).bind fun na => (strconv_unrounded_ceil.f na).bind fun dn => (strconv_unrounded_nudge.f b 0).bind fun nb => (strconv_unrounded_floor.f nb).bind fun dx =>
          if IntKind.u64.wrap (IntKind.u64.wrap (Int.tdiv dx 10) * 10) ≥ dn then some (IntKind.u64.wrap (Int.tdiv dx 10), IntKind.i64.wrap (0 - IntKind.i64.wrap ((p : Int) - 1)))
          else if dn < dx then (us m p (scS e lp)).bind fun c => (strconv_unrounded_round.f c).bind fun d => some (d, IntKind.i64.wrap (0 - (p : Int)))
          else some (dn, IntKind.i64.wrap (0 - (p : Int)))
    else none
theorem tuple2 {x y u v : Value} (hx : x = u) (hy : y = v) : (Value.tuple #[x, y]) = .tuple #[u, v] := by rw [hx, hy]
set_option maxHeartbeats 8000000 in
set_option maxRecDepth 100000 in
theorem short_walk_sk (m e R PR r lp a b na nb dn dx mn mx : Int) (p : Nat) (c1 : (m == 9223372036854775808) = true) (c2 : decide (e > -189) = true) (c3 : decide (e ≥ -189) = true) (hr : strconv_skewed.f (IntKind.i64.wrap (e + 40)) = some r) (hp : IntKind.i64.wrap (0 - r) = (p : Int)) (h3 : 3 ≤ p) (h15 : p ≤ 15)
    (ho : Go.bits .and .i64 (IntKind.i64.wrap (m / 1099511627776)) 1 = 0) (hlp : strconv_log2Pow10.f (p : Int) = some lp) (hmn : IntKind.u64.wrap (m - 274877906944) = mn) (hmx : IntKind.u64.wrap (m + 549755813888) = mx) (ha : us mn p (scS e lp) = some a) (hb : us mx p (scS e lp) = some b) (hna : strconv_unrounded_nudge.f a 0 = some na) (hdn : strconv_unrounded_ceil.f na = some dn) (hnb : strconv_unrounded_nudge.f b 0 = some nb) (hdx : strconv_unrounded_floor.f nb = some dx)
    (hres : (if IntKind.u64.wrap (IntKind.u64.wrap (Int.tdiv dx 10) * 10) ≥ dn then some (IntKind.u64.wrap (Int.tdiv dx 10), IntKind.i64.wrap (0 - IntKind.i64.wrap ((p : Int) - 1))) else if dn < dx then (us m p (scS e lp)).bind fun c => (strconv_unrounded_round.f c).bind fun d => some (d, IntKind.i64.wrap (0 - (p : Int))) else some (dn, IntKind.i64.wrap (0 - (p : Int)))) = some (R, PR)) (w : World) (HZ : GlobP w) :
    Calls Tryd.prog 35 #[.int .u64 m, .int .i64 e] w fun e' w' => e' = .returned (.tuple #[.int .u64 R, .int .i64 PR]) ∧ Below w.heap.size w w' := by
  refine calls_of_wp Tryd.func35 rfl ?_
  have h0 := has_two (β := bn []) (vu m) (vi e) 131
  have d0 : (⟨#[.int .u64 m, .int .i64 e] ++ Array.replicate 131 undef, []⟩ : Act).defers = [] := rfl
  have HB0 := Below.refl w.heap.size w
  refine wp_seq (wp_region ?_)
  refine oP 133 [] [0, 1] [(0, vu m), (1, vi e), (4, vu 0), (5, vi 0)] h0 d0 (fun a1 h1 d1 => ?_)
  clear h0 d0
  show Code.wp _ _ _ _ _
  refine wp_seq (wp_region ?_)
  refine oP 133 [] [0, 1] [(0, vu m), (1, vi e), (4, vu 0), (5, vi 0), (6, vi 0), (7, vi 0)] h1 d1 (fun a2 h2 d2 => ?_)
  clear h1 d1
  show Code.wp _ _ _ _ _
  refine wp_seq ?_
  refine wp_seq (wp_region ?_)
  refine oP 133 [] [0] [(0, vu m), (1, vi e), (4, vu 0), (5, vi 0), (6, vi 0), (7, vi 0), (15, vu 32)] h2 d2 (fun a3 h3 d3 => ?_)
  clear h2 d2
  show Code.wp _ _ _ _ _
  refine wp_block ?_
  refine wp_seq (wp_region ?_)
  refine oP 133 [] [0, 1] [(0, vu m), (1, vi e), (4, vu 0), (5, vi 0), (6, vi 0), (7, vi 0), (15, vu 32), (16, vb true)] h3 d3 (fun a4 h4 d4 => ?_)
  clear h3 d3
  show Code.wp _ _ _ _ _
  refine wp_cond_true (h4.2 16 _ rfl) ?_
  refine wp_seq (wp_region ?_)
  refine oP 133 [] [0] [(0, vu m), (1, vi e), (4, vu 0), (5, vi 0), (6, vi 23), (7, vi 0), (15, vu 32), (16, vb true)] h4 d4 (fun a5 h5 d5 => ?_)
  clear h4 d4
  show Code.wp _ _ _ _ _
  refine wp_region ?_
  refine oP 133 [] [0] [(0, vu m), (1, vi e), (4, vu 0), (5, vi 0), (6, vi 23), (7, vi (-189)), (15, vu 32), (16, vb true)] h5 d5 (fun a6 h6 d6 => ?_)
  clear h5 d5
  show Code.wp _ _ _ _ _
  refine wp_seq (wp_region ?_)
  refine oP 133 [] [0, 1] [(0, vu m), (1, vi e), (4, vu 0), (5, vi 0), (6, vi 23), (7, vi (-189)), (8, vu 0), (9, vu 0), (15, vu 32), (16, vb true)] h6 d6 (fun a7 h7 d7 => ?_)
  clear h6 d6
  show Code.wp _ _ _ _ _
  refine wp_seq (wp_region ?_)
  refine oP 133 [] [0] [(0, vu m), (1, vi e), (4, vu 0), (5, vi 0), (6, vi 23), (7, vi (-189)), (8, vu 0), (9, vu 0), (10, vi 0), (15, vu 32), (16, vb true)] h7 d7 (fun a8 h8 d8 => ?_)
  clear h7 d7
  show Code.wp _ _ _ _ _
  refine wp_seq (wp_region ?_)
  refine oP 133 [] [0, 1, 2] [(0, vu m), (1, vi e), (4, vu 0), (5, vi 0), (7, vi (-189)), (8, vu 0), (9, vu 0), (10, vi 0), (11, vi 40), (15, vu 32), (16, vb true)] h8 d8 (fun a9 h9 d9 => ?_)
  clear h8 d8
  show Code.wp _ _ _ _ _
  refine wp_seq ?_
  refine wp_seq (wp_region ?_)
  refine oP 133 [2, 3, 4, 5, 6] [0, 1] [(0, vu m), (1, vi e), (4, vu 0), (5, vi 0), (7, vi (-189)), (8, vu 0), (9, vu 0), (10, vi 0), (11, vi 40), (15, vu 32), (16, vb true), (22, vu m), (23, vb ((m : Int) == 9223372036854775808))] h9 d9 (fun a10 h10 d10 => ?_)
  clear h9 d9
  rw [show ((m : Int) == 9223372036854775808) = true from c1] at h10
  refine oP 133 [3, 4, 5, 6] [2] [(0, vu m), (1, vi e), (4, vu 0), (5, vi 0), (7, vi (-189)), (8, vu 0), (9, vu 0), (10, vi 0), (11, vi 40), (15, vu 32), (16, vb true), (22, vu m), (23, vb true), (24, vb true)] h10 d10 (fun a11 h11 d11 => ?_)
  clear h10 d10
  refine guard_ops (N := 133) (T := TT) (M := (fun _ _ => none)) tabOk (i := 3) (d := 25) (j := 2) (dj := 24) (b := true) (s := vi e) (l := [4, 5, 6]) (fun _ _ _ h => by cases h) rfl rfl rfl rfl rfl (by decide) h11 (by kernel_rfl) (fun a12 h12 d12 => ?_)
  replace d12 := d12.trans d11
  clear h11 d11
  refine guard_ops (N := 133) (T := TT) (M := (fun _ _ => none)) tabOk (i := 4) (d := 26) (j := 2) (dj := 24) (b := true) (s := vi (-189)) (l := [5, 6]) (fun _ _ _ h => by cases h) rfl rfl rfl rfl rfl (by decide) h12 (by kernel_rfl) (fun a13 h13 d13 => ?_)
  replace d13 := d13.trans d12
  clear h12 d12
  refine guard_ops (N := 133) (T := TT) (M := (fun _ _ => none)) tabOk (i := 5) (d := 27) (j := 2) (dj := 24) (b := true) (s := vb (decide ((e : Int) > (-189)))) (l := [6]) (fun _ _ _ h => by cases h) rfl rfl rfl rfl rfl (by decide) h13 (by kernel_rfl) (fun a14 h14 d14 => ?_)
  replace d14 := d14.trans d13
  clear h13 d13
  refine gW (s := vb (decide ((e : Int) > (-189)))) 133 [] h14 d14 rfl (want_ rfl) rfl (by decide) (op_pickT rfl (h14.2 24 _ rfl) (h14.2 27 _ rfl)) (fun a15 h15 d15 => ?_)
  clear h14 d14
  rw [show (decide ((e : Int) > (-189))) = true from c2] at h15
  show Code.wp _ _ _ _ _
  refine wp_cond_true (h15.2 28 _ rfl) ?_
  refine wp_seq (wp_region ?_)
  refine oP 133 [3, 4, 5] [0, 1, 2] [(0, vu m), (1, vi e), (4, vu 0), (5, vi 0), (7, vi (-189)), (8, vu 0), (9, vu 0), (10, vi 0), (11, vi 40), (15, vu 32), (16, vb true), (22, vu m), (23, vb true), (24, vb true), (25, vi e), (26, vi (-189)), (27, vb true), (28, vb true), (29, vi e), (30, vi 40), (31, vi (IntKind.i64.wrap (e + 40)))] h15 d15 (fun a16 h16 d16 => ?_)
  clear h15 d15
  refine callW_ops (N := 133) (i := 3) (d := 32) (f := 47) (args := [(vi (IntKind.i64.wrap (e + 40)))]) (l := [4, 5]) rfl (want_ rfl) rfl (by decide) h16 Tryd.func47 rfl rfl rfl (by kernel_rfl) (fun v W' => v = (.int .i64 r) ∧ Below (w).heap.size (w) W') ((strconv_skewed.calls _ _ w hr).mono fun e w' hh => ⟨_, hh.1, rfl, hh.2.below⟩) (fun v17 W17 a17 hR17 h17 d17 => ?_)
  replace d17 := d17.trans d16
  clear h16 d16
  obtain ⟨rfl, B17⟩ := hR17
  have HB17 := below_step HB0 B17
  refine oP 133 [5] [4] [(0, vu m), (1, vi e), (4, vu 0), (5, vi 0), (7, vi (-189)), (8, vu 0), (9, vu 0), (10, vi 0), (11, vi 40), (15, vu 32), (16, vb true), (22, vu m), (23, vb true), (24, vb true), (25, vi e), (26, vi (-189)), (27, vb true), (28, vb true), (29, vi e), (30, vi 40), (31, vi (IntKind.i64.wrap (e + 40))), (32, vi r), (33, vi (IntKind.i64.wrap (0 - r)))] h17 d17 (fun a18 h18 d18 => ?_)
  clear h17 d17
  rw [show (IntKind.i64.wrap (0 - r)) = (p : Int) from hp] at h18
  refine oP 133 [] [5] [(0, vu m), (1, vi e), (4, vu 0), (5, vi (p : Int)), (7, vi (-189)), (8, vu 0), (9, vu 0), (10, vi 0), (11, vi 40), (15, vu 32), (16, vb true), (22, vu m), (23, vb true), (24, vb true), (25, vi e), (26, vi (-189)), (27, vb true), (28, vb true)] h18 d18 (fun a19 h19 d19 => ?_)
  clear h18 d18
  show Code.wp _ _ _ _ _
  refine wp_seq (wp_region ?_)
  refine oP 133 [] [0, 1, 2, 3, 4, 5] [(0, vu m), (1, vi e), (4, vu 0), (5, vi (p : Int)), (7, vi (-189)), (8, vu (IntKind.u64.wrap (m - 274877906944))), (9, vu 0), (10, vi 0), (11, vi 40), (15, vu 32), (16, vb true), (22, vu m), (23, vb true), (24, vb true), (25, vi e), (26, vi (-189)), (27, vb true), (28, vb true)] h19 d19 (fun a20 h20 d20 => ?_)
  clear h19 d19
  rw [show (IntKind.u64.wrap (m - 274877906944)) = mn from hmn] at h20
  show Code.wp _ _ _ _ _
  refine wp_seq (wp_region ?_)
  refine oP 133 [] [0, 1, 2, 3, 4, 5] [(0, vu m), (1, vi e), (4, vu 0), (5, vi (p : Int)), (7, vi (-189)), (8, vu mn), (9, vu (IntKind.u64.wrap (m + 549755813888))), (10, vi 0), (11, vi 40), (15, vu 32), (16, vb true), (22, vu m), (23, vb true), (24, vb true), (25, vi e), (26, vi (-189)), (27, vb true), (28, vb true)] h20 d20 (fun a21 h21 d21 => ?_)
  clear h20 d20
  rw [show (IntKind.u64.wrap (m + 549755813888)) = mx from hmx] at h21
  show Code.wp _ _ _ _ _
  refine wp_region ?_
  refine oP 133 [] [0, 1, 2, 3, 4, 5] [(0, vu m), (1, vi e), (4, vu 0), (5, vi (p : Int)), (7, vi (-189)), (8, vu mn), (9, vu mx), (10, vi (Go.bits .and .i64 (IntKind.i64.wrap ((m / 1099511627776))) 1)), (11, vi 40), (15, vu 32), (16, vb true), (22, vu m), (23, vb true), (24, vb true), (25, vi e), (26, vi (-189)), (27, vb true), (28, vb true)] h21 d21 (fun a22 h22 d22 => ?_)
  clear h21 d21
  rw [show (Go.bits .and .i64 (IntKind.i64.wrap ((m / 1099511627776))) 1) = 0 from ho] at h22
  show Code.wp _ _ _ _ _
  refine wp_seq (wp_region ?_)
  refine alloc_ops (N := 133) (i := 0) (d := 12) (l := []) rfl rfl rfl (by decide) h22 rfl allocOk78 (fun a23 h23 d23 => ?_)
  replace d23 := d23.trans d22
  clear h22 d22
  have lg : w.heap.size ≤ W17.heap.size := HB17.size
  have hg : (⟨W17.heap.size, 78, 3, scV 0 0 0⟩ : Bl).In (W17.alloc (.cells #[.int .u64 0, .int .u64 0, .int .i64 0] 78)) := In_sc (MapKept.heap_alloc W17 _).1
  have HB23 := below_alloc HB17 (.cells #[.int .u64 0, .int .u64 0, .int .i64 0] 78)
  show Code.wp _ _ _ _ _
  generalize W17.heap.size = g at lg hg h23
  generalize W17.alloc (.cells #[.int .u64 0, .int .u64 0, .int .i64 0] 78) = W23 at hg HB23 ⊢
  refine wp_seq (wp_region ?_)
  refine oP 133 [3, 4] [0, 1, 2] [(0, vu m), (1, vi e), (4, vu 0), (5, vi (p : Int)), (7, vi (-189)), (8, vu mn), (9, vu mx), (10, vi 0), (11, vi 40), (12, vp g), (15, vu 32), (16, vb true), (22, vu m), (23, vb true), (24, vb true), (25, vi e), (26, vi (-189)), (27, vb true), (28, vb true), (97, vi e), (98, vi (p : Int)), (99, vi (p : Int))] h23 d23 (fun a24 h24 d24 => ?_)
  clear h23 d23
  refine callW_ops (N := 133) (i := 3) (d := 100) (f := 49) (args := [(vi (p : Int))]) (l := [4]) rfl (want_ rfl) rfl (by decide) h24 Tryd.func49 rfl rfl rfl (by kernel_rfl) (fun v W' => v = (.int .i64 lp) ∧ Below (W23).heap.size (W23) W') ((strconv_log2Pow10.calls _ _ W23 hlp).mono fun e w' hh => ⟨_, hh.1, rfl, hh.2.below⟩) (fun v25 W25 a25 hR25 h25 d25 => ?_)
  replace d25 := d25.trans d24
  clear h24 d24
  obtain ⟨rfl, B25⟩ := hR25
  have HB25 := below_step HB23 B25
  replace hg := hg.on (Fr.ofBelow [] B25) (by simp)
  refine callW_ops (N := 133) (i := 4) (d := 101) (f := 48) (args := [vp g, vi e, vi (p : Int), vi lp]) (l := []) rfl (want_ rfl) rfl (by decide) h25 Tryd.func48 rfl rfl rfl (by kernel_rfl) (fun v W' => v = .tuple #[] ∧ (⟨g, 78, 3, scV ((pHi p : Nat) : Int) 0 (scS e lp)⟩ : Bl).In W' ∧ Below w.heap.size w W') ((prescale_walk g _ e lp p ⟨h3, h15⟩ W25 (HZ.below HB25) hg (Nat.le_trans HZ.lt3 lg)).mono fun e' w' hh => ⟨_, hh.1, rfl, hh.2.1, HB25.trans (hh.2.2.below _ HB25.size (by intro k hk; simp at hk; subst hk; exact lg))⟩) (fun v26 W26 a26 hR26 h26 d26 => ?_)
  replace d26 := d26.trans d25
  clear h25 d25
  obtain ⟨rfl, G26, HB26⟩ := hR26
  clear hg
  have hg := G26
  show Code.wp _ _ _ _ _
  refine wp_seq (wp_region ?_)
  refine oP 133 [1, 2, 3, 4, 5] [0] [(0, vu m), (1, vi e), (4, vu 0), (5, vi (p : Int)), (7, vi (-189)), (8, vu mn), (9, vu mx), (10, vi 0), (11, vi 40), (12, vp g), (15, vu 32), (16, vb true), (22, vu m), (23, vb true), (24, vb true), (25, vi e), (26, vi (-189)), (27, vb true), (28, vb true), (102, vu mn)] h26 d26 (fun a27 h27 d27 => ?_)
  clear h26 d26
  refine callW_ops (N := 133) (i := 1) (d := 103) (f := 50) (args := [(vu mn), vp g]) (l := [2, 3, 4, 5]) rfl (want_ rfl) rfl (by decide) h27 Tryd.func50 rfl rfl rfl (by kernel_rfl) (fun v W' => v = .int .u64 a ∧ (⟨g, 78, 3, scV ((pHi p : Nat) : Int) 0 (scS e lp)⟩ : Bl).In W' ∧ Below w.heap.size w W') ((uscale_walk mn _ _ _ a g w W26 hg lg HB26 (us_some ha)).mono fun e' w' hh => ⟨_, hh.1, rfl, hh.2⟩) (fun v28 W28 a28 hR28 h28 d28 => ?_)
  replace d28 := d28.trans d27
  clear h27 d27
  obtain ⟨rfl, G28, HB28⟩ := hR28
  clear hg
  have hg := G28
  refine oP 133 [3, 4, 5] [2] [(0, vu m), (1, vi e), (4, vu 0), (5, vi (p : Int)), (7, vi (-189)), (8, vu mn), (9, vu mx), (10, vi 0), (11, vi 40), (12, vp g), (15, vu 32), (16, vb true), (22, vu m), (23, vb true), (24, vb true), (25, vi e), (26, vi (-189)), (27, vb true), (28, vb true), (102, vu mn), (103, vu a), (104, vi 0)] h28 d28 (fun a29 h29 d29 => ?_)
  clear h28 d28
  refine callW_ops (N := 133) (i := 3) (d := 105) (f := 51) (args := [(vu a), vi 0]) (l := [4, 5]) rfl (want_ rfl) rfl (by decide) h29 Tryd.func51 rfl rfl rfl (by kernel_rfl) (fun v W' => v = (.int .u64 na) ∧ Below (W28).heap.size (W28) W') ((strconv_unrounded_nudge.calls _ _ _ W28 hna).mono fun e w' hh => ⟨_, hh.1, rfl, hh.2.below⟩) (fun v30 W30 a30 hR30 h30 d30 => ?_)
  replace d30 := d30.trans d29
  clear h29 d29
  obtain ⟨rfl, B30⟩ := hR30
  have HB30 := below_step HB28 B30
  replace hg := hg.on (Fr.ofBelow [] B30) (by simp)
  refine callW_ops (N := 133) (i := 4) (d := 106) (f := 52) (args := [(vu na)]) (l := [5]) rfl (want_ rfl) rfl (by decide) h30 Tryd.func52 rfl rfl rfl (by kernel_rfl) (fun v W' => v = (.int .u64 dn) ∧ Below (W30).heap.size (W30) W') ((strconv_unrounded_ceil.calls _ _ W30 hdn).mono fun e w' hh => ⟨_, hh.1, rfl, hh.2.below⟩) (fun v31 W31 a31 hR31 h31 d31 => ?_)
  replace d31 := d31.trans d30
  clear h30 d30
  obtain ⟨rfl, B31⟩ := hR31
  have HB31 := below_step HB30 B31
  replace hg := hg.on (Fr.ofBelow [] B31) (by simp)
  refine oP 133 [] [5] [(0, vu m), (1, vi e), (4, vu 0), (5, vi (p : Int)), (7, vi (-189)), (9, vu mx), (10, vi 0), (11, vi 40), (12, vp g), (13, vu dn), (15, vu 32), (16, vb true), (22, vu m), (23, vb true), (24, vb true), (25, vi e), (26, vi (-189)), (27, vb true), (28, vb true)] h31 d31 (fun a32 h32 d32 => ?_)
  clear h31 d31
  show Code.wp _ _ _ _ _
  refine wp_seq (wp_region ?_)
  refine oP 133 [1, 2, 3, 4, 5, 6] [0] [(0, vu m), (1, vi e), (4, vu 0), (5, vi (p : Int)), (7, vi (-189)), (9, vu mx), (10, vi 0), (11, vi 40), (12, vp g), (13, vu dn), (15, vu 32), (16, vb true), (22, vu m), (23, vb true), (24, vb true), (25, vi e), (26, vi (-189)), (27, vb true), (28, vb true), (107, vu mx)] h32 d32 (fun a33 h33 d33 => ?_)
  clear h32 d32
  refine callW_ops (N := 133) (i := 1) (d := 108) (f := 50) (args := [(vu mx), vp g]) (l := [2, 3, 4, 5, 6]) rfl (want_ rfl) rfl (by decide) h33 Tryd.func50 rfl rfl rfl (by kernel_rfl) (fun v W' => v = .int .u64 b ∧ (⟨g, 78, 3, scV ((pHi p : Nat) : Int) 0 (scS e lp)⟩ : Bl).In W' ∧ Below w.heap.size w W') ((uscale_walk mx _ _ _ b g w W31 hg lg HB31 (us_some hb)).mono fun e' w' hh => ⟨_, hh.1, rfl, hh.2⟩) (fun v34 W34 a34 hR34 h34 d34 => ?_)
  replace d34 := d34.trans d33
  clear h33 d33
  obtain ⟨rfl, G34, HB34⟩ := hR34
  clear hg
  have hg := G34
  refine oP 133 [4, 5, 6] [2, 3] [(0, vu m), (1, vi e), (4, vu 0), (5, vi (p : Int)), (7, vi (-189)), (9, vu mx), (10, vi 0), (11, vi 40), (12, vp g), (13, vu dn), (15, vu 32), (16, vb true), (22, vu m), (23, vb true), (24, vb true), (25, vi e), (26, vi (-189)), (27, vb true), (28, vb true), (107, vu mx), (108, vu b), (109, vi 0), (110, vi 0)] h34 d34 (fun a35 h35 d35 => ?_)
  clear h34 d34
  refine callW_ops (N := 133) (i := 4) (d := 111) (f := 51) (args := [(vu b), vi 0]) (l := [5, 6]) rfl (want_ rfl) rfl (by decide) h35 Tryd.func51 rfl rfl rfl (by kernel_rfl) (fun v W' => v = (.int .u64 nb) ∧ Below (W34).heap.size (W34) W') ((strconv_unrounded_nudge.calls _ _ _ W34 hnb).mono fun e w' hh => ⟨_, hh.1, rfl, hh.2.below⟩) (fun v36 W36 a36 hR36 h36 d36 => ?_)
  replace d36 := d36.trans d35
  clear h35 d35
  obtain ⟨rfl, B36⟩ := hR36
  have HB36 := below_step HB34 B36
  replace hg := hg.on (Fr.ofBelow [] B36) (by simp)
  refine callW_ops (N := 133) (i := 5) (d := 112) (f := 53) (args := [(vu nb)]) (l := [6]) rfl (want_ rfl) rfl (by decide) h36 Tryd.func53 rfl rfl rfl (by kernel_rfl) (fun v W' => v = (.int .u64 dx) ∧ Below (W36).heap.size (W36) W') ((strconv_unrounded_floor.calls _ _ W36 hdx).mono fun e w' hh => ⟨_, hh.1, rfl, hh.2.below⟩) (fun v37 W37 a37 hR37 h37 d37 => ?_)
  replace d37 := d37.trans d36
  clear h36 d36
  obtain ⟨rfl, B37⟩ := hR37
  have HB37 := below_step HB36 B37
  replace hg := hg.on (Fr.ofBelow [] B37) (by simp)
  refine oP 133 [] [6] [(0, vu m), (1, vi e), (4, vu 0), (5, vi (p : Int)), (7, vi (-189)), (10, vi 0), (11, vi 40), (12, vp g), (13, vu dn), (14, vu dx), (15, vu 32), (16, vb true), (22, vu m), (23, vb true), (24, vb true), (25, vi e), (26, vi (-189)), (27, vb true), (28, vb true)] h37 d37 (fun a38 h38 d38 => ?_)
  clear h37 d37
  show Code.wp _ _ _ _ _
  refine wp_seq ?_
  refine wp_seq (wp_region ?_)
  refine oP 133 [] [0, 1, 2] [(0, vu m), (1, vi e), (4, vu (IntKind.u64.wrap (Int.tdiv dx 10))), (5, vi (p : Int)), (7, vi (-189)), (10, vi 0), (11, vi 40), (12, vp g), (13, vu dn), (14, vu dx), (15, vu 32), (16, vb true), (22, vu m), (23, vb true), (24, vb true), (25, vi e), (26, vi (-189)), (27, vb true), (28, vb true)] h38 d38 (fun a39 h39 d39 => ?_)
  clear h38 d38
  show Code.wp _ _ _ _ _
  refine wp_seq (wp_region ?_)
  refine oP 133 [] [0, 1, 2, 3] [(0, vu m), (1, vi e), (4, vu (IntKind.u64.wrap (Int.tdiv dx 10))), (5, vi (p : Int)), (7, vi (-189)), (10, vi 0), (11, vi 40), (12, vp g), (13, vu dn), (14, vu dx), (15, vu 32), (16, vb true), (22, vu m), (23, vb true), (24, vb true), (25, vi e), (26, vi (-189)), (27, vb true), (28, vb true), (118, vb (decide (((IntKind.u64.wrap ((IntKind.u64.wrap (Int.tdiv dx 10)) * 10)) : Int) ≥ dn)))] h39 d39 (fun a40 h40 d40 => ?_)
  clear h39 d39
  by_cases c4 : IntKind.u64.wrap (IntKind.u64.wrap (Int.tdiv dx 10) * 10) ≥ dn
  · rw [if_pos c4] at hres
    obtain ⟨rfl, rfl⟩ := Prod.mk.inj (Option.some.inj hres)
    rw [show (decide (((IntKind.u64.wrap ((IntKind.u64.wrap (Int.tdiv dx 10)) * 10)) : Int) ≥ dn)) = true from decide_eq_true c4] at h40
    show Code.wp _ _ _ _ _
    refine wp_cond_true (h40.2 118 _ rfl) ?_
    refine wp_seq (wp_region ?_)
    refine oP 133 [] [0, 1, 2, 3, 4, 5] [(0, vu m), (1, vi e), (4, vu (IntKind.u64.wrap (Int.tdiv dx 10))), (5, vi (IntKind.i64.wrap (0 - (IntKind.i64.wrap ((p : Int) - 1))))), (7, vi (-189)), (10, vi 0), (11, vi 40), (12, vp g), (13, vu dn), (14, vu dx), (15, vu 32), (16, vb true), (22, vu m), (23, vb true), (24, vb true), (25, vi e), (26, vi (-189)), (27, vb true), (28, vb true), (118, vb true)] h40 d40 (fun a41 h41 d41 => ?_)
    clear h40 d40
    show Code.wp _ _ _ _ _
    refine wp_ret ?_
    exact ⟨d41, _, results_tmp2 rfl _ _ _, congrArg Ending.returned (tuple2 (h41.2 4 _ rfl) (h41.2 5 _ rfl)), HB37⟩
  · rw [if_neg c4] at hres
    rw [show (decide (((IntKind.u64.wrap ((IntKind.u64.wrap (Int.tdiv dx 10)) * 10)) : Int) ≥ dn)) = false from decide_eq_false c4] at h40
    show Code.wp _ _ _ _ _
    refine wp_cond_false (h40.2 118 _ rfl) ?_
    refine wp_skip ?_
    show Code.wp _ _ _ _ _
    refine wp_seq ?_
    refine wp_seq (wp_region ?_)
    refine oP 133 [] [0, 1] [(0, vu m), (1, vi e), (4, vu dn), (5, vi (p : Int)), (7, vi (-189)), (10, vi 0), (11, vi 40), (12, vp g), (13, vu dn), (14, vu dx), (15, vu 32), (16, vb true), (22, vu m), (23, vb true), (24, vb true), (25, vi e), (26, vi (-189)), (27, vb true), (28, vb true), (118, vb false)] h40 d40 (fun a41 h41 d41 => ?_)
    clear h40 d40
    show Code.wp _ _ _ _ _
    refine wp_seq (wp_region ?_)
    refine oP 133 [] [0, 1, 2] [(0, vu m), (1, vi e), (4, vu dn), (5, vi (p : Int)), (7, vi (-189)), (10, vi 0), (11, vi 40), (12, vp g), (13, vu dn), (14, vu dx), (15, vu 32), (16, vb true), (22, vu m), (23, vb true), (24, vb true), (25, vi e), (26, vi (-189)), (27, vb true), (28, vb true), (118, vb false), (126, vb (decide ((dn : Int) < dx)))] h41 d41 (fun a42 h42 d42 => ?_)
    clear h41 d41
    by_cases c5 : dn < dx
    · rw [if_pos c5] at hres
      obtain ⟨c, hc, hres⟩ := Option.bind_eq_some_iff.1 hres
      obtain ⟨d, hd, hres⟩ := Option.bind_eq_some_iff.1 hres
      obtain ⟨rfl, rfl⟩ := Prod.mk.inj (Option.some.inj hres)
      rw [show (decide ((dn : Int) < dx)) = true from decide_eq_true c5] at h42
      show Code.wp _ _ _ _ _
      refine wp_cond_true (h42.2 126 _ rfl) ?_
      refine wp_region ?_
      refine oP 133 [1, 2, 3] [0] [(0, vu m), (1, vi e), (4, vu dn), (5, vi (p : Int)), (7, vi (-189)), (10, vi 0), (11, vi 40), (12, vp g), (13, vu dn), (14, vu dx), (15, vu 32), (16, vb true), (22, vu m), (23, vb true), (24, vb true), (25, vi e), (26, vi (-189)), (27, vb true), (28, vb true), (118, vb false), (126, vb true), (127, vu m)] h42 d42 (fun a43 h43 d43 => ?_)
      clear h42 d42
      refine callW_ops (N := 133) (i := 1) (d := 128) (f := 50) (args := [(vu m), vp g]) (l := [2, 3]) rfl (want_ rfl) rfl (by decide) h43 Tryd.func50 rfl rfl rfl (by kernel_rfl) (fun v W' => v = .int .u64 c ∧ (⟨g, 78, 3, scV ((pHi p : Nat) : Int) 0 (scS e lp)⟩ : Bl).In W' ∧ Below w.heap.size w W') ((uscale_walk m _ _ _ c g w W37 hg lg HB37 (us_some hc)).mono fun e' w' hh => ⟨_, hh.1, rfl, hh.2⟩) (fun v44 W44 a44 hR44 h44 d44 => ?_)
      replace d44 := d44.trans d43
      clear h43 d43
      obtain ⟨rfl, G44, HB44⟩ := hR44
      clear hg
      have hg := G44
      refine callW_ops (N := 133) (i := 2) (d := 129) (f := 54) (args := [(vu c)]) (l := [3]) rfl (want_ rfl) rfl (by decide) h44 Tryd.func54 rfl rfl rfl (by kernel_rfl) (fun v W' => v = (.int .u64 d) ∧ Below (W44).heap.size (W44) W') ((strconv_unrounded_round.calls _ _ W44 hd).mono fun e w' hh => ⟨_, hh.1, rfl, hh.2.below⟩) (fun v45 W45 a45 hR45 h45 d45 => ?_)
      replace d45 := d45.trans d44
      clear h44 d44
      obtain ⟨rfl, B45⟩ := hR45
      have HB45 := below_step HB44 B45
      replace hg := hg.on (Fr.ofBelow [] B45) (by simp)
      refine oP 133 [] [3] [(0, vu m), (1, vi e), (4, vu d), (5, vi (p : Int)), (7, vi (-189)), (10, vi 0), (11, vi 40), (12, vp g), (13, vu dn), (14, vu dx), (15, vu 32), (16, vb true), (22, vu m), (23, vb true), (24, vb true), (25, vi e), (26, vi (-189)), (27, vb true), (28, vb true), (118, vb false), (126, vb true)] h45 d45 (fun a46 h46 d46 => ?_)
      clear h45 d45
      show Code.wp _ _ _ _ _
      refine wp_seq (wp_region ?_)
      refine oP 133 [] [0, 1, 2, 3, 4] [(0, vu m), (1, vi e), (4, vu d), (5, vi (IntKind.i64.wrap (0 - (p : Int)))), (7, vi (-189)), (10, vi 0), (11, vi 40), (12, vp g), (13, vu dn), (14, vu dx), (15, vu 32), (16, vb true), (22, vu m), (23, vb true), (24, vb true), (25, vi e), (26, vi (-189)), (27, vb true), (28, vb true), (118, vb false), (126, vb true)] h46 d46 (fun a47 h47 d47 => ?_)
      clear h46 d46
      show Code.wp _ _ _ _ _
      refine wp_ret ?_
      exact ⟨d47, _, results_tmp2 rfl _ _ _, congrArg Ending.returned (tuple2 (h47.2 4 _ rfl) (h47.2 5 _ rfl)), HB45⟩
    · rw [if_neg c5] at hres
      obtain ⟨rfl, rfl⟩ := Prod.mk.inj (Option.some.inj hres)
      rw [show (decide ((dn : Int) < dx)) = false from decide_eq_false c5] at h42
      show Code.wp _ _ _ _ _
      refine wp_cond_false (h42.2 126 _ rfl) ?_
      refine wp_skip ?_
      show Code.wp _ _ _ _ _
      refine wp_seq (wp_region ?_)
      refine oP 133 [] [0, 1, 2, 3, 4] [(0, vu m), (1, vi e), (4, vu dn), (5, vi (IntKind.i64.wrap (0 - (p : Int)))), (7, vi (-189)), (10, vi 0), (11, vi 40), (12, vp g), (13, vu dn), (14, vu dx), (15, vu 32), (16, vb true), (22, vu m), (23, vb true), (24, vb true), (25, vi e), (26, vi (-189)), (27, vb true), (28, vb true), (118, vb false), (126, vb false)] h42 d42 (fun a43 h43 d43 => ?_)
      clear h42 d42
      show Code.wp _ _ _ _ _
      refine wp_ret ?_
      exact ⟨d43, _, results_tmp2 rfl _ _ _, congrArg Ending.returned (tuple2 (h43.2 4 _ rfl) (h43.2 5 _ rfl)), HB37⟩
set_option maxHeartbeats 8000000 in
set_option maxRecDepth 100000 in
theorem short_walk_no (m e R PR r lp a b na nb dn dx mn mx : Int) (p : Nat) (c1 : (m == 9223372036854775808) = false) (c2 : decide (e > -189) = true) (c3 : decide (e ≥ -189) = true) (hr : strconv_log10Pow2.f (IntKind.i64.wrap (e + 40)) = some r) (hp : IntKind.i64.wrap (0 - r) = (p : Int)) (h3 : 3 ≤ p) (h15 : p ≤ 15)
    (ho : Go.bits .and .i64 (IntKind.i64.wrap (m / 1099511627776)) 1 = 0) (hlp : strconv_log2Pow10.f (p : Int) = some lp) (hmn : IntKind.u64.wrap (m - 549755813888) = mn) (hmx : IntKind.u64.wrap (m + 549755813888) = mx) (ha : us mn p (scS e lp) = some a) (hb : us mx p (scS e lp) = some b) (hna : strconv_unrounded_nudge.f a 0 = some na) (hdn : strconv_unrounded_ceil.f na = some dn) (hnb : strconv_unrounded_nudge.f b 0 = some nb) (hdx : strconv_unrounded_floor.f nb = some dx)
    (hres : (if IntKind.u64.wrap (IntKind.u64.wrap (Int.tdiv dx 10) * 10) ≥ dn then some (IntKind.u64.wrap (Int.tdiv dx 10), IntKind.i64.wrap (0 - IntKind.i64.wrap ((p : Int) - 1))) else if dn < dx then (us m p (scS e lp)).bind fun c => (strconv_unrounded_round.f c).bind fun d => some (d, IntKind.i64.wrap (0 - (p : Int))) else some (dn, IntKind.i64.wrap (0 - (p : Int)))) = some (R, PR)) (w : World) (HZ : GlobP w) :
    Calls Tryd.prog 35 #[.int .u64 m, .int .i64 e] w fun e' w' => e' = .returned (.tuple #[.int .u64 R, .int .i64 PR]) ∧ Below w.heap.size w w' := by
  refine calls_of_wp Tryd.func35 rfl ?_
  have h0 := has_two (β := bn []) (vu m) (vi e) 131
  have d0 : (⟨#[.int .u64 m, .int .i64 e] ++ Array.replicate 131 undef, []⟩ : Act).defers = [] := rfl
  have HB0 := Below.refl w.heap.size w
  refine wp_seq (wp_region ?_)
  refine oP 133 [] [0, 1] [(0, vu m), (1, vi e), (4, vu 0), (5, vi 0)] h0 d0 (fun a1 h1 d1 => ?_)
  clear h0 d0
  show Code.wp _ _ _ _ _
  refine wp_seq (wp_region ?_)
  refine oP 133 [] [0, 1] [(0, vu m), (1, vi e), (4, vu 0), (5, vi 0), (6, vi 0), (7, vi 0)] h1 d1 (fun a2 h2 d2 => ?_)
  clear h1 d1
  show Code.wp _ _ _ _ _
  refine wp_seq ?_
  refine wp_seq (wp_region ?_)
  refine oP 133 [] [0] [(0, vu m), (1, vi e), (4, vu 0), (5, vi 0), (6, vi 0), (7, vi 0), (15, vu 32)] h2 d2 (fun a3 h3 d3 => ?_)
  clear h2 d2
  show Code.wp _ _ _ _ _
  refine wp_block ?_
  refine wp_seq (wp_region ?_)
  refine oP 133 [] [0, 1] [(0, vu m), (1, vi e), (4, vu 0), (5, vi 0), (6, vi 0), (7, vi 0), (15, vu 32), (16, vb true)] h3 d3 (fun a4 h4 d4 => ?_)
  clear h3 d3
  show Code.wp _ _ _ _ _
  refine wp_cond_true (h4.2 16 _ rfl) ?_
  refine wp_seq (wp_region ?_)
  refine oP 133 [] [0] [(0, vu m), (1, vi e), (4, vu 0), (5, vi 0), (6, vi 23), (7, vi 0), (15, vu 32), (16, vb true)] h4 d4 (fun a5 h5 d5 => ?_)
  clear h4 d4
  show Code.wp _ _ _ _ _
  refine wp_region ?_
  refine oP 133 [] [0] [(0, vu m), (1, vi e), (4, vu 0), (5, vi 0), (6, vi 23), (7, vi (-189)), (15, vu 32), (16, vb true)] h5 d5 (fun a6 h6 d6 => ?_)
  clear h5 d5
  show Code.wp _ _ _ _ _
  refine wp_seq (wp_region ?_)
  refine oP 133 [] [0, 1] [(0, vu m), (1, vi e), (4, vu 0), (5, vi 0), (6, vi 23), (7, vi (-189)), (8, vu 0), (9, vu 0), (15, vu 32), (16, vb true)] h6 d6 (fun a7 h7 d7 => ?_)
  clear h6 d6
  show Code.wp _ _ _ _ _
  refine wp_seq (wp_region ?_)
  refine oP 133 [] [0] [(0, vu m), (1, vi e), (4, vu 0), (5, vi 0), (6, vi 23), (7, vi (-189)), (8, vu 0), (9, vu 0), (10, vi 0), (15, vu 32), (16, vb true)] h7 d7 (fun a8 h8 d8 => ?_)
  clear h7 d7
  show Code.wp _ _ _ _ _
  refine wp_seq (wp_region ?_)
  refine oP 133 [] [0, 1, 2] [(0, vu m), (1, vi e), (4, vu 0), (5, vi 0), (7, vi (-189)), (8, vu 0), (9, vu 0), (10, vi 0), (11, vi 40), (15, vu 32), (16, vb true)] h8 d8 (fun a9 h9 d9 => ?_)
  clear h8 d8
  show Code.wp _ _ _ _ _
  refine wp_seq ?_
  refine wp_seq (wp_region ?_)
  refine oP 133 [2, 3, 4, 5, 6] [0, 1] [(0, vu m), (1, vi e), (4, vu 0), (5, vi 0), (7, vi (-189)), (8, vu 0), (9, vu 0), (10, vi 0), (11, vi 40), (15, vu 32), (16, vb true), (22, vu m), (23, vb ((m : Int) == 9223372036854775808))] h9 d9 (fun a10 h10 d10 => ?_)
  clear h9 d9
  rw [show ((m : Int) == 9223372036854775808) = false from c1] at h10
  refine oP 133 [3, 4, 5, 6] [2] [(0, vu m), (1, vi e), (4, vu 0), (5, vi 0), (7, vi (-189)), (8, vu 0), (9, vu 0), (10, vi 0), (11, vi 40), (15, vu 32), (16, vb true), (22, vu m), (23, vb false), (24, vb false)] h10 d10 (fun a11 h11 d11 => ?_)
  clear h10 d10
  refine skip_ops (N := 133) (i := 3) (d := 25) (j := 2) (dj := 24) (b := true) (b' := false) (l := [4, 5, 6]) rfl rfl rfl rfl (by decide) rfl (by decide) h11 (fun a12 h12 d12 => ?_)
  replace d12 := d12.trans d11
  clear h11 d11
  refine skip_ops (N := 133) (i := 4) (d := 26) (j := 2) (dj := 24) (b := true) (b' := false) (l := [5, 6]) rfl rfl rfl rfl (by decide) rfl (by decide) h12 (fun a13 h13 d13 => ?_)
  replace d13 := d13.trans d12
  clear h12 d12
  refine skip_ops (N := 133) (i := 5) (d := 27) (j := 2) (dj := 24) (b := true) (b' := false) (l := [6]) rfl rfl rfl rfl (by decide) rfl (by decide) h13 (fun a14 h14 d14 => ?_)
  replace d14 := d14.trans d13
  clear h13 d13
  refine gW (s := .v (Value.bool false)) 133 [] h14 d14 rfl (want_ rfl) rfl (by decide) (op_pickF rfl (h14.2 24 _ rfl) rfl) (fun a15 h15 d15 => ?_)
  clear h14 d14
  show Code.wp _ _ _ _ _
  refine wp_cond_false (h15.2 28 _ rfl) ?_
  refine wp_seq (wp_region ?_)
  refine oP 133 [] [0, 1, 2] [(0, vu m), (1, vi e), (4, vu 0), (5, vi 0), (7, vi (-189)), (8, vu 0), (9, vu 0), (10, vi 0), (11, vi 40), (15, vu 32), (16, vb true), (22, vu m), (23, vb false), (24, vb false), (28, vb false), (51, vb (decide ((e : Int) ≥ (-189))))] h15 d15 (fun a16 h16 d16 => ?_)
  clear h15 d15
  rw [show (decide ((e : Int) ≥ (-189))) = true from c3] at h16
  show Code.wp _ _ _ _ _
  refine wp_cond_true (h16.2 51 _ rfl) ?_
  refine wp_seq (wp_region ?_)
  refine oP 133 [3, 4, 5] [0, 1, 2] [(0, vu m), (1, vi e), (4, vu 0), (5, vi 0), (7, vi (-189)), (8, vu 0), (9, vu 0), (10, vi 0), (11, vi 40), (15, vu 32), (16, vb true), (22, vu m), (23, vb false), (24, vb false), (28, vb false), (51, vb true), (52, vi e), (53, vi 40), (54, vi (IntKind.i64.wrap (e + 40)))] h16 d16 (fun a17 h17 d17 => ?_)
  clear h16 d16
  refine callW_ops (N := 133) (i := 3) (d := 55) (f := 38) (args := [(vi (IntKind.i64.wrap (e + 40)))]) (l := [4, 5]) rfl (want_ rfl) rfl (by decide) h17 Tryd.func38 rfl rfl rfl (by kernel_rfl) (fun v W' => v = (.int .i64 r) ∧ Below (w).heap.size (w) W') ((strconv_log10Pow2.calls _ _ w hr).mono fun e w' hh => ⟨_, hh.1, rfl, hh.2.below⟩) (fun v18 W18 a18 hR18 h18 d18 => ?_)
  replace d18 := d18.trans d17
  clear h17 d17
  obtain ⟨rfl, B18⟩ := hR18
  have HB18 := below_step HB0 B18
  refine oP 133 [5] [4] [(0, vu m), (1, vi e), (4, vu 0), (5, vi 0), (7, vi (-189)), (8, vu 0), (9, vu 0), (10, vi 0), (11, vi 40), (15, vu 32), (16, vb true), (22, vu m), (23, vb false), (24, vb false), (28, vb false), (51, vb true), (52, vi e), (53, vi 40), (54, vi (IntKind.i64.wrap (e + 40))), (55, vi r), (56, vi (IntKind.i64.wrap (0 - r)))] h18 d18 (fun a19 h19 d19 => ?_)
  clear h18 d18
  rw [show (IntKind.i64.wrap (0 - r)) = (p : Int) from hp] at h19
  refine oP 133 [] [5] [(0, vu m), (1, vi e), (4, vu 0), (5, vi (p : Int)), (7, vi (-189)), (8, vu 0), (9, vu 0), (10, vi 0), (11, vi 40), (15, vu 32), (16, vb true), (22, vu m), (23, vb false), (24, vb false), (28, vb false), (51, vb true)] h19 d19 (fun a20 h20 d20 => ?_)
  clear h19 d19
  show Code.wp _ _ _ _ _
  refine wp_seq (wp_region ?_)
  refine oP 133 [] [0, 1, 2, 3, 4, 5] [(0, vu m), (1, vi e), (4, vu 0), (5, vi (p : Int)), (7, vi (-189)), (8, vu (IntKind.u64.wrap (m - 549755813888))), (9, vu 0), (10, vi 0), (11, vi 40), (15, vu 32), (16, vb true), (22, vu m), (23, vb false), (24, vb false), (28, vb false), (51, vb true)] h20 d20 (fun a21 h21 d21 => ?_)
  clear h20 d20
  rw [show (IntKind.u64.wrap (m - 549755813888)) = mn from hmn] at h21
  show Code.wp _ _ _ _ _
  refine wp_seq (wp_region ?_)
  refine oP 133 [] [0, 1, 2, 3, 4, 5] [(0, vu m), (1, vi e), (4, vu 0), (5, vi (p : Int)), (7, vi (-189)), (8, vu mn), (9, vu (IntKind.u64.wrap (m + 549755813888))), (10, vi 0), (11, vi 40), (15, vu 32), (16, vb true), (22, vu m), (23, vb false), (24, vb false), (28, vb false), (51, vb true)] h21 d21 (fun a22 h22 d22 => ?_)
  clear h21 d21
  rw [show (IntKind.u64.wrap (m + 549755813888)) = mx from hmx] at h22
  show Code.wp _ _ _ _ _
  refine wp_region ?_
  refine oP 133 [] [0, 1, 2, 3, 4, 5] [(0, vu m), (1, vi e), (4, vu 0), (5, vi (p : Int)), (7, vi (-189)), (8, vu mn), (9, vu mx), (10, vi (Go.bits .and .i64 (IntKind.i64.wrap ((m / 1099511627776))) 1)), (11, vi 40), (15, vu 32), (16, vb true), (22, vu m), (23, vb false), (24, vb false), (28, vb false), (51, vb true)] h22 d22 (fun a23 h23 d23 => ?_)
  clear h22 d22
  rw [show (Go.bits .and .i64 (IntKind.i64.wrap ((m / 1099511627776))) 1) = 0 from ho] at h23
  show Code.wp _ _ _ _ _
  refine wp_seq (wp_region ?_)
  refine alloc_ops (N := 133) (i := 0) (d := 12) (l := []) rfl rfl rfl (by decide) h23 rfl allocOk78 (fun a24 h24 d24 => ?_)
  replace d24 := d24.trans d23
  clear h23 d23
  have lg : w.heap.size ≤ W18.heap.size := HB18.size
  have hg : (⟨W18.heap.size, 78, 3, scV 0 0 0⟩ : Bl).In (W18.alloc (.cells #[.int .u64 0, .int .u64 0, .int .i64 0] 78)) := In_sc (MapKept.heap_alloc W18 _).1
  have HB24 := below_alloc HB18 (.cells #[.int .u64 0, .int .u64 0, .int .i64 0] 78)
  show Code.wp _ _ _ _ _
  generalize W18.heap.size = g at lg hg h24
  generalize W18.alloc (.cells #[.int .u64 0, .int .u64 0, .int .i64 0] 78) = W24 at hg HB24 ⊢
  refine wp_seq (wp_region ?_)
  refine oP 133 [3, 4] [0, 1, 2] [(0, vu m), (1, vi e), (4, vu 0), (5, vi (p : Int)), (7, vi (-189)), (8, vu mn), (9, vu mx), (10, vi 0), (11, vi 40), (12, vp g), (15, vu 32), (16, vb true), (22, vu m), (23, vb false), (24, vb false), (28, vb false), (51, vb true), (97, vi e), (98, vi (p : Int)), (99, vi (p : Int))] h24 d24 (fun a25 h25 d25 => ?_)
  clear h24 d24
  refine callW_ops (N := 133) (i := 3) (d := 100) (f := 49) (args := [(vi (p : Int))]) (l := [4]) rfl (want_ rfl) rfl (by decide) h25 Tryd.func49 rfl rfl rfl (by kernel_rfl) (fun v W' => v = (.int .i64 lp) ∧ Below (W24).heap.size (W24) W') ((strconv_log2Pow10.calls _ _ W24 hlp).mono fun e w' hh => ⟨_, hh.1, rfl, hh.2.below⟩) (fun v26 W26 a26 hR26 h26 d26 => ?_)
  replace d26 := d26.trans d25
  clear h25 d25
  obtain ⟨rfl, B26⟩ := hR26
  have HB26 := below_step HB24 B26
  replace hg := hg.on (Fr.ofBelow [] B26) (by simp)
  refine callW_ops (N := 133) (i := 4) (d := 101) (f := 48) (args := [vp g, vi e, vi (p : Int), vi lp]) (l := []) rfl (want_ rfl) rfl (by decide) h26 Tryd.func48 rfl rfl rfl (by kernel_rfl) (fun v W' => v = .tuple #[] ∧ (⟨g, 78, 3, scV ((pHi p : Nat) : Int) 0 (scS e lp)⟩ : Bl).In W' ∧ Below w.heap.size w W') ((prescale_walk g _ e lp p ⟨h3, h15⟩ W26 (HZ.below HB26) hg (Nat.le_trans HZ.lt3 lg)).mono fun e' w' hh => ⟨_, hh.1, rfl, hh.2.1, HB26.trans (hh.2.2.below _ HB26.size (by intro k hk; simp at hk; subst hk; exact lg))⟩) (fun v27 W27 a27 hR27 h27 d27 => ?_)
  replace d27 := d27.trans d26
  clear h26 d26
  obtain ⟨rfl, G27, HB27⟩ := hR27
  clear hg
  have hg := G27
  show Code.wp _ _ _ _ _
  refine wp_seq (wp_region ?_)
  refine oP 133 [1, 2, 3, 4, 5] [0] [(0, vu m), (1, vi e), (4, vu 0), (5, vi (p : Int)), (7, vi (-189)), (8, vu mn), (9, vu mx), (10, vi 0), (11, vi 40), (12, vp g), (15, vu 32), (16, vb true), (22, vu m), (23, vb false), (24, vb false), (28, vb false), (51, vb true), (102, vu mn)] h27 d27 (fun a28 h28 d28 => ?_)
  clear h27 d27
  refine callW_ops (N := 133) (i := 1) (d := 103) (f := 50) (args := [(vu mn), vp g]) (l := [2, 3, 4, 5]) rfl (want_ rfl) rfl (by decide) h28 Tryd.func50 rfl rfl rfl (by kernel_rfl) (fun v W' => v = .int .u64 a ∧ (⟨g, 78, 3, scV ((pHi p : Nat) : Int) 0 (scS e lp)⟩ : Bl).In W' ∧ Below w.heap.size w W') ((uscale_walk mn _ _ _ a g w W27 hg lg HB27 (us_some ha)).mono fun e' w' hh => ⟨_, hh.1, rfl, hh.2⟩) (fun v29 W29 a29 hR29 h29 d29 => ?_)
  replace d29 := d29.trans d28
  clear h28 d28
  obtain ⟨rfl, G29, HB29⟩ := hR29
  clear hg
  have hg := G29
  refine oP 133 [3, 4, 5] [2] [(0, vu m), (1, vi e), (4, vu 0), (5, vi (p : Int)), (7, vi (-189)), (8, vu mn), (9, vu mx), (10, vi 0), (11, vi 40), (12, vp g), (15, vu 32), (16, vb true), (22, vu m), (23, vb false), (24, vb false), (28, vb false), (51, vb true), (102, vu mn), (103, vu a), (104, vi 0)] h29 d29 (fun a30 h30 d30 => ?_)
  clear h29 d29
  refine callW_ops (N := 133) (i := 3) (d := 105) (f := 51) (args := [(vu a), vi 0]) (l := [4, 5]) rfl (want_ rfl) rfl (by decide) h30 Tryd.func51 rfl rfl rfl (by kernel_rfl) (fun v W' => v = (.int .u64 na) ∧ Below (W29).heap.size (W29) W') ((strconv_unrounded_nudge.calls _ _ _ W29 hna).mono fun e w' hh => ⟨_, hh.1, rfl, hh.2.below⟩) (fun v31 W31 a31 hR31 h31 d31 => ?_)
  replace d31 := d31.trans d30
  clear h30 d30
  obtain ⟨rfl, B31⟩ := hR31
  have HB31 := below_step HB29 B31
  replace hg := hg.on (Fr.ofBelow [] B31) (by simp)
  refine callW_ops (N := 133) (i := 4) (d := 106) (f := 52) (args := [(vu na)]) (l := [5]) rfl (want_ rfl) rfl (by decide) h31 Tryd.func52 rfl rfl rfl (by kernel_rfl) (fun v W' => v = (.int .u64 dn) ∧ Below (W31).heap.size (W31) W') ((strconv_unrounded_ceil.calls _ _ W31 hdn).mono fun e w' hh => ⟨_, hh.1, rfl, hh.2.below⟩) (fun v32 W32 a32 hR32 h32 d32 => ?_)
  replace d32 := d32.trans d31
  clear h31 d31
  obtain ⟨rfl, B32⟩ := hR32
  have HB32 := below_step HB31 B32
  replace hg := hg.on (Fr.ofBelow [] B32) (by simp)
  refine oP 133 [] [5] [(0, vu m), (1, vi e), (4, vu 0), (5, vi (p : Int)), (7, vi (-189)), (9, vu mx), (10, vi 0), (11, vi 40), (12, vp g), (13, vu dn), (15, vu 32), (16, vb true), (22, vu m), (23, vb false), (24, vb false), (28, vb false), (51, vb true)] h32 d32 (fun a33 h33 d33 => ?_)
  clear h32 d32
  show Code.wp _ _ _ _ _
  refine wp_seq (wp_region ?_)
  refine oP 133 [1, 2, 3, 4, 5, 6] [0] [(0, vu m), (1, vi e), (4, vu 0), (5, vi (p : Int)), (7, vi (-189)), (9, vu mx), (10, vi 0), (11, vi 40), (12, vp g), (13, vu dn), (15, vu 32), (16, vb true), (22, vu m), (23, vb false), (24, vb false), (28, vb false), (51, vb true), (107, vu mx)] h33 d33 (fun a34 h34 d34 => ?_)
  clear h33 d33
  refine callW_ops (N := 133) (i := 1) (d := 108) (f := 50) (args := [(vu mx), vp g]) (l := [2, 3, 4, 5, 6]) rfl (want_ rfl) rfl (by decide) h34 Tryd.func50 rfl rfl rfl (by kernel_rfl) (fun v W' => v = .int .u64 b ∧ (⟨g, 78, 3, scV ((pHi p : Nat) : Int) 0 (scS e lp)⟩ : Bl).In W' ∧ Below w.heap.size w W') ((uscale_walk mx _ _ _ b g w W32 hg lg HB32 (us_some hb)).mono fun e' w' hh => ⟨_, hh.1, rfl, hh.2⟩) (fun v35 W35 a35 hR35 h35 d35 => ?_)
  replace d35 := d35.trans d34
  clear h34 d34
  obtain ⟨rfl, G35, HB35⟩ := hR35
  clear hg
  have hg := G35
  refine oP 133 [4, 5, 6] [2, 3] [(0, vu m), (1, vi e), (4, vu 0), (5, vi (p : Int)), (7, vi (-189)), (9, vu mx), (10, vi 0), (11, vi 40), (12, vp g), (13, vu dn), (15, vu 32), (16, vb true), (22, vu m), (23, vb false), (24, vb false), (28, vb false), (51, vb true), (107, vu mx), (108, vu b), (109, vi 0), (110, vi 0)] h35 d35 (fun a36 h36 d36 => ?_)
  clear h35 d35
  refine callW_ops (N := 133) (i := 4) (d := 111) (f := 51) (args := [(vu b), vi 0]) (l := [5, 6]) rfl (want_ rfl) rfl (by decide) h36 Tryd.func51 rfl rfl rfl (by kernel_rfl) (fun v W' => v = (.int .u64 nb) ∧ Below (W35).heap.size (W35) W') ((strconv_unrounded_nudge.calls _ _ _ W35 hnb).mono fun e w' hh => ⟨_, hh.1, rfl, hh.2.below⟩) (fun v37 W37 a37 hR37 h37 d37 => ?_)
  replace d37 := d37.trans d36
  clear h36 d36
  obtain ⟨rfl, B37⟩ := hR37
  have HB37 := below_step HB35 B37
  replace hg := hg.on (Fr.ofBelow [] B37) (by simp)
  refine callW_ops (N := 133) (i := 5) (d := 112) (f := 53) (args := [(vu nb)]) (l := [6]) rfl (want_ rfl) rfl (by decide) h37 Tryd.func53 rfl rfl rfl (by kernel_rfl) (fun v W' => v = (.int .u64 dx) ∧ Below (W37).heap.size (W37) W') ((strconv_unrounded_floor.calls _ _ W37 hdx).mono fun e w' hh => ⟨_, hh.1, rfl, hh.2.below⟩) (fun v38 W38 a38 hR38 h38 d38 => ?_)
  replace d38 := d38.trans d37
  clear h37 d37
  obtain ⟨rfl, B38⟩ := hR38
  have HB38 := below_step HB37 B38
  replace hg := hg.on (Fr.ofBelow [] B38) (by simp)
  refine oP 133 [] [6] [(0, vu m), (1, vi e), (4, vu 0), (5, vi (p : Int)), (7, vi (-189)), (10, vi 0), (11, vi 40), (12, vp g), (13, vu dn), (14, vu dx), (15, vu 32), (16, vb true), (22, vu m), (23, vb false), (24, vb false), (28, vb false), (51, vb true)] h38 d38 (fun a39 h39 d39 => ?_)
  clear h38 d38
  show Code.wp _ _ _ _ _
  refine wp_seq ?_
  refine wp_seq (wp_region ?_)
  refine oP 133 [] [0, 1, 2] [(0, vu m), (1, vi e), (4, vu (IntKind.u64.wrap (Int.tdiv dx 10))), (5, vi (p : Int)), (7, vi (-189)), (10, vi 0), (11, vi 40), (12, vp g), (13, vu dn), (14, vu dx), (15, vu 32), (16, vb true), (22, vu m), (23, vb false), (24, vb false), (28, vb false), (51, vb true)] h39 d39 (fun a40 h40 d40 => ?_)
  clear h39 d39
  show Code.wp _ _ _ _ _
  refine wp_seq (wp_region ?_)
  refine oP 133 [] [0, 1, 2, 3] [(0, vu m), (1, vi e), (4, vu (IntKind.u64.wrap (Int.tdiv dx 10))), (5, vi (p : Int)), (7, vi (-189)), (10, vi 0), (11, vi 40), (12, vp g), (13, vu dn), (14, vu dx), (15, vu 32), (16, vb true), (22, vu m), (23, vb false), (24, vb false), (28, vb false), (51, vb true), (118, vb (decide (((IntKind.u64.wrap ((IntKind.u64.wrap (Int.tdiv dx 10)) * 10)) : Int) ≥ dn)))] h40 d40 (fun a41 h41 d41 => ?_)
  clear h40 d40
  by_cases c4 : IntKind.u64.wrap (IntKind.u64.wrap (Int.tdiv dx 10) * 10) ≥ dn
  · rw [if_pos c4] at hres
    obtain ⟨rfl, rfl⟩ := Prod.mk.inj (Option.some.inj hres)
    rw [show (decide (((IntKind.u64.wrap ((IntKind.u64.wrap (Int.tdiv dx 10)) * 10)) : Int) ≥ dn)) = true from decide_eq_true c4] at h41
    show Code.wp _ _ _ _ _
    refine wp_cond_true (h41.2 118 _ rfl) ?_
    refine wp_seq (wp_region ?_)
    refine oP 133 [] [0, 1, 2, 3, 4, 5] [(0, vu m), (1, vi e), (4, vu (IntKind.u64.wrap (Int.tdiv dx 10))), (5, vi (IntKind.i64.wrap (0 - (IntKind.i64.wrap ((p : Int) - 1))))), (7, vi (-189)), (10, vi 0), (11, vi 40), (12, vp g), (13, vu dn), (14, vu dx), (15, vu 32), (16, vb true), (22, vu m), (23, vb false), (24, vb false), (28, vb false), (51, vb true), (118, vb true)] h41 d41 (fun a42 h42 d42 => ?_)
    clear h41 d41
    show Code.wp _ _ _ _ _
    refine wp_ret ?_
    exact ⟨d42, _, results_tmp2 rfl _ _ _, congrArg Ending.returned (tuple2 (h42.2 4 _ rfl) (h42.2 5 _ rfl)), HB38⟩
  · rw [if_neg c4] at hres
    rw [show (decide (((IntKind.u64.wrap ((IntKind.u64.wrap (Int.tdiv dx 10)) * 10)) : Int) ≥ dn)) = false from decide_eq_false c4] at h41
    show Code.wp _ _ _ _ _
    refine wp_cond_false (h41.2 118 _ rfl) ?_
    refine wp_skip ?_
    show Code.wp _ _ _ _ _
    refine wp_seq ?_
    refine wp_seq (wp_region ?_)
    refine oP 133 [] [0, 1] [(0, vu m), (1, vi e), (4, vu dn), (5, vi (p : Int)), (7, vi (-189)), (10, vi 0), (11, vi 40), (12, vp g), (13, vu dn), (14, vu dx), (15, vu 32), (16, vb true), (22, vu m), (23, vb false), (24, vb false), (28, vb false), (51, vb true), (118, vb false)] h41 d41 (fun a42 h42 d42 => ?_)
    clear h41 d41
    show Code.wp _ _ _ _ _
    refine wp_seq (wp_region ?_)
    refine oP 133 [] [0, 1, 2] [(0, vu m), (1, vi e), (4, vu dn), (5, vi (p : Int)), (7, vi (-189)), (10, vi 0), (11, vi 40), (12, vp g), (13, vu dn), (14, vu dx), (15, vu 32), (16, vb true), (22, vu m), (23, vb false), (24, vb false), (28, vb false), (51, vb true), (118, vb false), (126, vb (decide ((dn : Int) < dx)))] h42 d42 (fun a43 h43 d43 => ?_)
    clear h42 d42
    by_cases c5 : dn < dx
    · rw [if_pos c5] at hres
      obtain ⟨c, hc, hres⟩ := Option.bind_eq_some_iff.1 hres
      obtain ⟨d, hd, hres⟩ := Option.bind_eq_some_iff.1 hres
      obtain ⟨rfl, rfl⟩ := Prod.mk.inj (Option.some.inj hres)
      rw [show (decide ((dn : Int) < dx)) = true from decide_eq_true c5] at h43
      show Code.wp _ _ _ _ _
      refine wp_cond_true (h43.2 126 _ rfl) ?_
      refine wp_region ?_
      refine oP 133 [1, 2, 3] [0] [(0, vu m), (1, vi e), (4, vu dn), (5, vi (p : Int)), (7, vi (-189)), (10, vi 0), (11, vi 40), (12, vp g), (13, vu dn), (14, vu dx), (15, vu 32), (16, vb true), (22, vu m), (23, vb false), (24, vb false), (28, vb false), (51, vb true), (118, vb false), (126, vb true), (127, vu m)] h43 d43 (fun a44 h44 d44 => ?_)
      clear h43 d43
      refine callW_ops (N := 133) (i := 1) (d := 128) (f := 50) (args := [(vu m), vp g]) (l := [2, 3]) rfl (want_ rfl) rfl (by decide) h44 Tryd.func50 rfl rfl rfl (by kernel_rfl) (fun v W' => v = .int .u64 c ∧ (⟨g, 78, 3, scV ((pHi p : Nat) : Int) 0 (scS e lp)⟩ : Bl).In W' ∧ Below w.heap.size w W') ((uscale_walk m _ _ _ c g w W38 hg lg HB38 (us_some hc)).mono fun e' w' hh => ⟨_, hh.1, rfl, hh.2⟩) (fun v45 W45 a45 hR45 h45 d45 => ?_)
      replace d45 := d45.trans d44
      clear h44 d44
      obtain ⟨rfl, G45, HB45⟩ := hR45
      clear hg
      have hg := G45
      refine callW_ops (N := 133) (i := 2) (d := 129) (f := 54) (args := [(vu c)]) (l := [3]) rfl (want_ rfl) rfl (by decide) h45 Tryd.func54 rfl rfl rfl (by kernel_rfl) (fun v W' => v = (.int .u64 d) ∧ Below (W45).heap.size (W45) W') ((strconv_unrounded_round.calls _ _ W45 hd).mono fun e w' hh => ⟨_, hh.1, rfl, hh.2.below⟩) (fun v46 W46 a46 hR46 h46 d46 => ?_)
      replace d46 := d46.trans d45
      clear h45 d45
      obtain ⟨rfl, B46⟩ := hR46
      have HB46 := below_step HB45 B46
      replace hg := hg.on (Fr.ofBelow [] B46) (by simp)
      refine oP 133 [] [3] [(0, vu m), (1, vi e), (4, vu d), (5, vi (p : Int)), (7, vi (-189)), (10, vi 0), (11, vi 40), (12, vp g), (13, vu dn), (14, vu dx), (15, vu 32), (16, vb true), (22, vu m), (23, vb false), (24, vb false), (28, vb false), (51, vb true), (118, vb false), (126, vb true)] h46 d46 (fun a47 h47 d47 => ?_)
      clear h46 d46
      show Code.wp _ _ _ _ _
      refine wp_seq (wp_region ?_)
      refine oP 133 [] [0, 1, 2, 3, 4] [(0, vu m), (1, vi e), (4, vu d), (5, vi (IntKind.i64.wrap (0 - (p : Int)))), (7, vi (-189)), (10, vi 0), (11, vi 40), (12, vp g), (13, vu dn), (14, vu dx), (15, vu 32), (16, vb true), (22, vu m), (23, vb false), (24, vb false), (28, vb false), (51, vb true), (118, vb false), (126, vb true)] h47 d47 (fun a48 h48 d48 => ?_)
      clear h47 d47
      show Code.wp _ _ _ _ _
      refine wp_ret ?_
      exact ⟨d48, _, results_tmp2 rfl _ _ _, congrArg Ending.returned (tuple2 (h48.2 4 _ rfl) (h48.2 5 _ rfl)), HB46⟩
    · rw [if_neg c5] at hres
      obtain ⟨rfl, rfl⟩ := Prod.mk.inj (Option.some.inj hres)
      rw [show (decide ((dn : Int) < dx)) = false from decide_eq_false c5] at h43
      show Code.wp _ _ _ _ _
      refine wp_cond_false (h43.2 126 _ rfl) ?_
      refine wp_skip ?_
      show Code.wp _ _ _ _ _
      refine wp_seq (wp_region ?_)
      refine oP 133 [] [0, 1, 2, 3, 4] [(0, vu m), (1, vi e), (4, vu dn), (5, vi (IntKind.i64.wrap (0 - (p : Int)))), (7, vi (-189)), (10, vi 0), (11, vi 40), (12, vp g), (13, vu dn), (14, vu dx), (15, vu 32), (16, vb true), (22, vu m), (23, vb false), (24, vb false), (28, vb false), (51, vb true), (118, vb false), (126, vb false)] h43 d43 (fun a44 h44 d44 => ?_)
      clear h43 d43
      show Code.wp _ _ _ _ _
      refine wp_ret ?_
      exact ⟨d44, _, results_tmp2 rfl _ _ _, congrArg Ending.returned (tuple2 (h44.2 4 _ rfl) (h44.2 5 _ rfl)), HB38⟩
theorem short_walk (m e R PR : Int) (h : sfC m e = some (R, PR)) (w : World) (HZ : GlobP w) :
    Calls Tryd.prog 35 #[.int .u64 m, .int .i64 e] w fun e' w' => e' = .returned (.tuple #[.int .u64 R, .int .i64 PR]) ∧ Below w.heap.size w w' := by
  unfold sfC at h
  obtain ⟨r, hr, h⟩ := Option.bind_eq_some_iff.1 h
  simp only at h
  split at h
  case isFalse => cases h
  next hc =>
  obtain ⟨hp, h3, h15, he, ho⟩ := hc
  generalize (IntKind.i64.wrap (0 - r)).toNat = p at hp h3 h15 h
  obtain ⟨lp, hlp, h⟩ := Option.bind_eq_some_iff.1 h
  obtain ⟨a, ha, h⟩ := Option.bind_eq_some_iff.1 h
  obtain ⟨b, hb, h⟩ := Option.bind_eq_some_iff.1 h
  obtain ⟨na, hna, h⟩ := Option.bind_eq_some_iff.1 h
  obtain ⟨dn, hdn, h⟩ := Option.bind_eq_some_iff.1 h
  obtain ⟨nb, hnb, h⟩ := Option.bind_eq_some_iff.1 h
  obtain ⟨dx, hdx, h⟩ := Option.bind_eq_some_iff.1 h
  unfold sfP at hr
  unfold sfMin at ha
  by_cases hm : m = 9223372036854775808
  · rw [if_pos hm] at hr ha
    exact short_walk_sk m e R PR r lp a b na nb dn dx _ _ p (beq_iff_eq.mpr hm) (decide_eq_true he) (decide_eq_true (by omega)) hr hp h3 h15 ho hlp rfl rfl ha hb hna hdn hnb hdx h w HZ
  · rw [if_neg hm] at hr ha
    exact short_walk_no m e R PR r lp a b na nb dn dx _ _ p (beq_eq_false_iff_ne.mpr hm) (decide_eq_true he) (decide_eq_true (by omega)) hr hp h3 h15 ho hlp rfl rfl ha hb hna hdn hnb hdx h w HZ
end Go.Proofs.YtmgnffklmdhooaaDoor.PAll
namespace Go.Proofs.YtmgnffklmdhooaaDoor.PAll
open Go.RowKit Go.Proofs.YtmgnffklmdhooaaDoorW.PrintWords Go.Proofs.YtmgnffklmdhooaaDoorW.PrintLast Go.Proofs.YtmgnffklmdhooaaDoorW.PrintMore
set_option linter.unusedVariables false
set_option linter.unusedSimpArgs false
def pL (n : Nat) (ops : Array Oper) : Array Bool := match n with
  | 0 => Array.replicate 15 false
  | 1 => marks [0, 1, 2, 3, 4, 5, 6, 7] (Array.replicate 15 false)
  | 2 => (marks [0, 1, 2, 3, 4, 5, 6, 7] (Array.replicate 15 false)).setIfInBounds 8 true
  | 3 => marks [9] ((marks [0, 1, 2, 3, 4, 5, 6, 7] (Array.replicate 15 false)).setIfInBounds 8 true)
  | 4 => (marks [9] ((marks [0, 1, 2, 3, 4, 5, 6, 7] (Array.replicate 15 false)).setIfInBounds 8 true)).setIfInBounds 10 true
  | 5 => marks [11] ((marks [9] ((marks [0, 1, 2, 3, 4, 5, 6, 7] (Array.replicate 15 false)).setIfInBounds 8 true)).setIfInBounds 10 true)
  | 6 => (marks [11] ((marks [9] ((marks [0, 1, 2, 3, 4, 5, 6, 7] (Array.replicate 15 false)).setIfInBounds 8 true)).setIfInBounds 10 true)).setIfInBounds 12 true
  | _ => marks [13] ((marks [11] ((marks [9] ((marks [0, 1, 2, 3, 4, 5, 6, 7] (Array.replicate 15 false)).setIfInBounds 8 true)).setIfInBounds 10 true)).setIfInBounds 12 true)
def pairB (ops : Array Oper) : Bool :=
  schedB ops [] [0, 1, 2, 3, 4, 5, 6, 7] (pL 0 ops) && (takeB .any ops [] (pL 1 ops) (pL 2 ops) 8 && (schedB ops [] [9] (pL 2 ops) && (takeB .any ops [] (pL 3 ops) (pL 4 ops) 10 && (schedB ops [] [11] (pL 4 ops) &&
    (readyB .any ops (pL 5 ops) (pL 6 ops) 12 && (schedB ops [] [13] (pL 6 ops) && (readyB .any ops (pL 7 ops) ((pL 7 ops).setIfInBounds 14 true) 14 && (Region.ready .any ops ((pL 7 ops).setIfInBounds 14 true) == []))))))))
theorem bm_put_ne : ∀ {L : List Bl} {k i j : Nat} {u : Value}, i ≠ j → bm (bput L k i u) k j = bm L k j
  | [], _, _, _, _, _ => rfl
  | b :: L, 0, i, j, u, h => by
    show (match Nat.blt j b.n with | true => some (upm b.m i u j) | false => none) = (match Nat.blt j b.n with | true => some (b.m j) | false => none)
    unfold upm
    rw [if_neg (Ne.symm h)]
  | b :: L, k + 1, i, j, u, h => bm_put_ne (L := L) (k := k) h
section
variable {P : Program} {ops : Array Oper} {Q : Exit → Act → World → Prop} {N : Nat} {β : Nat → Nat} {T : TypeId → Option Ty}
theorem reg_pair {id k i j d8 d10 : Nat} {va vb v0 v1 : Value} {o8 o10 : Oper} {a : Act} {w : World} {L : List Bl} {E E1 E2 E3 E4 E5 : List (Nat × SV)} (hm : P.follows .mixedOrders = true) (hT : TabOk P T) (hA : Has N β E a) (hM : Mw β L w) (hsz : ops.size = 15) (hB : pairB ops = true)
    (hQ : ∀ c (a a' : Act) w, a'.defers = a.defers → Q (.panic c) a w → Q (.panic c) a' w)
    (e1 : evs N T (fun _ _ => none) ops [0, 1, 2, 3, 4, 5, 6, 7] E = some E1)
    (ho8 : ops[8]? = some o8) (hg8 : o8.guard = none) (hd8 : o8.dst = some d8) (hN8 : d8 < N) (r8 : ∀ a', Has N β E1 a' → ∀ W, (execOp a'.eval o8).run P W = .ok (.value va) W)
    (e2 : evs N T (fun _ _ => none) ops [9] ((d8, .v va) :: E1) = some E2)
    (ho10 : ops[10]? = some o10) (hg10 : o10.guard = none) (hd10 : o10.dst = some d10) (hN10 : d10 < N) (r10 : ∀ a', Has N β E2 a' → ∀ W, (execOp a'.eval o10).run P W = .ok (.value vb) W)
    (e3 : evs N T (fun _ _ => none) ops [11] ((d10, .v vb) :: E2) = some E3) (s1 : stV T ops 12 (some E3) = some (k, i, va)) (e5 : evs N T (fun _ _ => none) ops [13] E3 = some E5) (s2 : stV T ops 14 (some E5) = some (k, j, vb)) (hij : i ≠ j) (m1 : bm L k i = some v0) (m2 : bm L k j = some v1) (hsub : Sub (some E5) E4)
    (h : ∀ a' W, Has N β E4 a' → a'.defers = a.defers → Mw β (bput (bput L k i va) k j vb) W → Fr [β k] w W → Q .normal a' W) : (Code.region id ops true).wp P Q a w := by
  unfold pairB at hB
  simp only [Bool.and_eq_true] at hB
  obtain ⟨b1, b2, b3, b4, b5, b6, b7, b8, b9⟩ := hB
  refine wp_region_last (S := fun _ => True) (ds := []) hm ?_
  show wpAnyLast P .any ops Q (fun _ => True) [] ops.size (Array.replicate ops.size false) a w.drew
  rw [hsz]
  refine seg_ (N := N) (β := β) (M := fun _ _ => none) (T := T) (fuel := 7) (S := fun _ => True) hT (fun _ _ _ _ _ h => by cases h) hQ trivial [0, 1, 2, 3, 4, 5, 6, 7] b1 e1 hA (fun a1 h1 d1 => ?_)
  refine take_ (i := 8) (N := some d8) (v := va) (a' := a1.put (some d8) va) (pL 2 ops) ho8 hd8 b2 (fun c a w h => hQ c _ _ w (put_defs _ _ _).symm h) (Or.inl ⟨want_ hg8, fun W _ => r8 a1 h1 W⟩) trivial rfl ?_
  have h2 := h1.put d8 hN8 (.v va)
  refine seg_ (N := N) (β := β) (M := fun _ _ => none) (T := T) (fuel := 5) (S := fun _ => True) hT (fun _ _ _ _ _ h => by cases h) hQ trivial [9] b3 e2 h2 (fun a3 h3 d3 => ?_)
  refine take_ (i := 10) (N := some d10) (v := vb) (a' := a3.put (some d10) vb) (pL 4 ops) ho10 hd10 b4 (fun c a w h => hQ c _ _ w (put_defs _ _ _).symm h) (Or.inl ⟨want_ hg10, fun W _ => r10 a3 h3 W⟩) trivial rfl ?_
  have h4 := h3.put d10 hN10 (.v vb)
  refine seg_ (N := N) (β := β) (M := fun _ _ => none) (T := T) (fuel := 3) (S := fun _ => True) hT (fun _ _ _ _ _ h => by cases h) hQ trivial [11] b5 e3 h4 (fun a5 h5 d5 => ?_)
  have dd : a5.defers = a.defers := d5.trans ((put_defs _ _ _).trans (d3.trans ((put_defs _ _ _).trans d1)))
  clear h1 h2 h3 h4 d1 d3 d5
  obtain ⟨rfl, hM0⟩ := hM
  have hM1 := Mm.drew hM0
  obtain ⟨E', o12, he, ho12, hg12, hd12, run12⟩ := stV_ok (P := P) (β := bg L) (N := N) s1
  obtain rfl := Option.some.inj he
  obtain ⟨E', o14, he, ho14, hg14, hd14, run14⟩ := stV_ok (P := P) (β := bg L) (N := N) s2
  obtain rfl := Option.some.inj he
  have F0 : Fr [bg L k] w w.drew := (Fr.refl _ w).drew
  show wpAnyLast P .any ops Q (fun _ => True) [] 3 (pL 5 ops) a5 w.drew
  refine one_ (i := 12) (N := none) (pL 6 ops) ho12 hd12 b6 (by simp) (fun K hK => ?_)
  refine skip_ (want_ hg12) hd12 (run12 a5 w.drew hT h5 ⟨_, (hM1.at m1).1⟩ (hM1.at m1).2) (hK.out _ _ trivial (fun _ => ?_))
  have M1 := Mm.set va hM1 m1
  have m2' : bm (bput L k i va) k j = some v1 := (bm_put_ne (L := L) hij).trans m2
  refine seg_ (N := N) (β := bg L) (M := fun _ _ => none) (T := T) (fuel := 1) (S := fun _ => True) hT (fun _ _ _ _ _ h => by cases h) hQ trivial [13] b7 e5 h5 (fun a6 h6 d6 => ?_)
  show wpAnyLast P .any ops Q (fun _ => True) [] 1 (pL 7 ops) a6 _
  refine one_ (i := 14) (N := none) _ ho14 hd14 b8 (by simp) (fun K hK => ?_)
  have hc := M1.at m2'
  rw [bg_put] at hc
  refine skip_ (want_ hg14) hd14 (run14 a6 _ hT h6 ⟨_, hc.1⟩ hc.2) (hK.out _ _ trivial (fun _ => ?_))
  refine done_ b9 (h a6 _ (sub_ok h6 hsub) (d6.trans dd) ⟨(bg_put _ _ _ _).trans (bg_put _ _ _ _), ?_⟩ ?_)
  · have := Mm.set vb M1 m2'
    rw [bg_put] at this
    exact this
  · exact (F0.set _ (by simp) va).set _ (by simp) vb
end
end Go.Proofs.YtmgnffklmdhooaaDoor.PAll
namespace Go.Proofs.YtmgnffklmdhooaaDoor.PAll
open Go.RowKit Go.Proofs.YtmgnffklmdhooaaDoorW.PrintWords Go.Proofs.YtmgnffklmdhooaaDoorW.PrintLast Go.Proofs.YtmgnffklmdhooaaDoorW.PrintMore
set_option linter.unusedVariables false
set_option linter.unusedSimpArgs false
def smalls : ByteArray := ⟨#[48, 48, 48, 49, 48, 50, 48, 51, 48, 52, 48, 53, 48, 54, 48, 55, 48, 56, 48, 57, 49, 48, 49, 49, 49, 50, 49, 51, 49, 52, 49, 53, 49, 54, 49, 55, 49, 56, 49, 57, 50, 48, 50, 49, 50, 50, 50, 51, 50, 52, 50, 53, 50, 54, 50, 55, 50, 56, 50, 57, 51, 48, 51, 49, 51, 50, 51, 51, 51, 52, 51, 53, 51, 54, 51, 55, 51, 56, 51, 57, 52, 48, 52, 49, 52, 50, 52, 51, 52, 52, 52, 53, 52, 54, 52, 55, 52, 56, 52, 57, 53, 48, 53, 49, 53, 50, 53, 51, 53, 52, 53, 53, 53, 54, 53, 55, 53, 56, 53, 57, 54, 48, 54, 49, 54, 50, 54, 51, 54, 52, 54, 53, 54, 54, 54, 55, 54, 56, 54, 57, 55, 48, 55, 49, 55, 50, 55, 51, 55, 52, 55, 53, 55, 54, 55, 55, 55, 56, 55, 57, 56, 48, 56, 49, 56, 50, 56, 51, 56, 52, 56, 53, 56, 54, 56, 55, 56, 56, 56, 57, 57, 48, 57, 49, 57, 50, 57, 51, 57, 52, 57, 53, 57, 54, 57, 55, 57, 56, 57, 57]⟩
theorem smalls_all : (List.range 100).all (fun q => (smalls[2 * q]?).map UInt8.toNat == some (48 + q / 10) && (smalls[2 * q + 1]?).map UInt8.toNat == some (48 + q % 10)) = true := by decide +kernel
theorem smalls_at (q : Nat) (hq : q < 100) : (∃ b, smalls[2 * q]? = some b ∧ b.toNat = 48 + q / 10) ∧ ∃ b, smalls[2 * q + 1]? = some b ∧ b.toNat = 48 + q % 10 := by
  have h := List.all_eq_true.mp smalls_all q (List.mem_range.mpr hq)
  simp only [Bool.and_eq_true, beq_iff_eq] at h
  exact ⟨Option.map_eq_some_iff.1 h.1, Option.map_eq_some_iff.1 h.2⟩
section
variable {P : Program} {ρ : Operand → Value} {o : Oper} {W : World}
theorem op_indexStr {t : TypeId} {x ix : Operand} {s : ByteArray} {k : IntKind} {j : Nat} {b : UInt8} (ho : o.op = .index t x ix) (hx : ρ x = .string s) (hi : ρ ix = .int k (j : Int)) (ht : P.underlying t = some .string) (hb : s[j]? = some b) : (execOp ρ o).run P W = .ok (.value (.int .u8 (b.toNat : Int))) W := by
  unfold execOp
  rw [ho]
  simp [go_sem, Instr.index, asIntOf, hx, hi, und ht, hb]
theorem sm_hi {t : TypeId} {x ix : Operand} {q : Nat} (hq : q < 100) (ho : o.op = .index t x ix) (hx : ρ x = .string smalls) (hi : ρ ix = .int .u32 ((2 * q : Nat) : Int)) (ht : P.underlying t = some .string) : (execOp ρ o).run P W = .ok (.value (.int .u8 ((48 + q / 10 : Nat) : Int))) W := by
  obtain ⟨⟨b, h1, h2⟩, _⟩ := smalls_at q hq
  rw [op_indexStr ho hx hi ht h1, h2]
theorem sm_lo {t : TypeId} {x ix : Operand} {q : Nat} (hq : q < 100) (ho : o.op = .index t x ix) (hx : ρ x = .string smalls) (hi : ρ ix = .int .u32 (IntKind.u32.wrap (((2 * q : Nat) : Int) + 1))) (ht : P.underlying t = some .string) : (execOp ρ o).run P W = .ok (.value (.int .u8 ((48 + q % 10 : Nat) : Int))) W := by
  obtain ⟨_, b, h1, h2⟩ := smalls_at q hq
  have e : IntKind.u32.wrap (((2 * q : Nat) : Int) + 1) = ((2 * q + 1 : Nat) : Int) := by
    rw [IntKind.wrap_u32]
    omega
  rw [e] at hi
  rw [op_indexStr ho hx hi ht h1, h2]
end
theorem n_rem (u k : Nat) : Int.tmod (u : Int) (k : Int) = ((u % k : Nat) : Int) := (Int.ofNat_tmod u k).symm
theorem n_div (u k : Nat) : Int.tdiv (u : Int) (k : Int) = ((u / k : Nat) : Int) := (Int.ofNat_tdiv u k).symm
theorem n_c64 (u : Nat) (h : u < 18446744073709551616) : IntKind.u64.wrap (u : Int) = (u : Int) := by
  rw [IntKind.wrap_u64]
  omega
theorem n_c32 (u : Nat) (h : u < 4294967296) : IntKind.u32.wrap (u : Int) = (u : Int) := by
  rw [IntKind.wrap_u32]
  omega
theorem n_c8 (u : Nat) (h : u < 208) : IntKind.u8.wrap (IntKind.u32.wrap (48 + (u : Int))) = ((48 + u : Nat) : Int) := by
  rw [IntKind.wrap_u32, IntKind.wrap_u8]
  omega
theorem n_q64 (u k : Nat) (h : u / k < 18446744073709551616) : IntKind.u64.wrap (Int.tdiv (u : Int) (k : Int)) = ((u / k : Nat) : Int) := by rw [n_div, n_c64 _ h]
theorem n_q32 (u k : Nat) (h : u / k < 4294967296) : IntKind.u32.wrap (Int.tdiv (u : Int) (k : Int)) = ((u / k : Nat) : Int) := by rw [n_div, n_c32 _ h]
theorem n_m2 (u : Nat) (h : 2 * u < 4294967296) : IntKind.u32.wrap ((u : Int) * 2) = ((2 * u : Nat) : Int) := by
  rw [IntKind.wrap_u32]
  omega
/-- n digits of u, then what was there. -/
def dgM (m : Nat → Value) (n u : Nat) : Nat → Value := fun i => if i < n then .int .u8 ((48 + u / 10 ^ (n - 1 - i) % 10 : Nat) : Int) else m i
end Go.Proofs.YtmgnffklmdhooaaDoor.PAll
namespace Go.Proofs.YtmgnffklmdhooaaDoor.PAll
open Go.RowKit Go.Proofs.YtmgnffklmdhooaaDoorW.PrintWords Go.Proofs.YtmgnffklmdhooaaDoorW.PrintLast Go.Proofs.YtmgnffklmdhooaaDoorW.PrintMore
set_option linter.unusedVariables false
set_option linter.unusedSimpArgs false
set_option maxHeartbeats 8000000 in
set_option maxRecDepth 100000 in
theorem fmt6_walk (g u : Nat) (m : Nat → Value) (hu : u < 1000000) (w : World) (hg : (⟨g, 59, 32, m⟩ : Bl).In w) :
    Calls Tryd.prog 55 #[.slice (some ⟨g, 0, none⟩) 6 32, .int .u64 (u : Int)] w fun e' w' => e' = .returned (.tuple #[]) ∧ (⟨g, 59, 32, dgM m 6 u⟩ : Bl).In w' ∧ Fr [g] w w' := by
  refine calls_of_wp Tryd.func55 rfl ?_
  have h0 := has_two (β := bn [g]) (.s 0 0 6 32) (vu (u : Int)) 165
  have d0 : (⟨#[.slice (some ⟨g, 0, none⟩) 6 32, .int .u64 (u : Int)] ++ Array.replicate 165 undef, []⟩ : Act).defers = [] := rfl
  have M0 : Mw (bn [g]) [⟨g, 59, 32, m⟩] w := ⟨bg_bn _, hg, by simp, trivial⟩
  have F := Fr.refl [g] w
  refine wp_seq (wp_region ?_)
  refine oP 167 [] [0, 1, 2] [(0, .s 0 0 6 32), (1, vu ↑u), (4, vi 6)] h0 d0 (fun a1 h1 d1 => ?_)
  clear h0 d0
  show Code.wp _ _ _ _ _
  refine wp_seq ?_
  refine wp_block ?_
  refine wp_loop_rounds 1 ?_
  rw [rounds_succ]
  refine wp_seq ?_
  refine wp_seq (wp_region ?_)
  refine oP 167 [] [0, 1] [(0, .s 0 0 6 32), (1, vu ↑u), (4, vi 6), (20, vb false)] h1 d1 (fun a2 h2 d2 => ?_)
  clear h1 d1
  show Code.wp _ _ _ _ _
  refine wp_cond_false (h2.2 20 _ rfl) ?_
  refine wp_exit ?_
  refine then_exit (then_exit (exit_in ?_))
  show Code.wp _ _ _ _ _
  refine wp_seq (wp_region ?_)
  refine oP 167 [1, 2] [0] [(0, .s 0 0 6 32), (1, vu ↑u), (4, vi 6), (20, vb false), (96, vu ↑u)] h2 d2 (fun a3 h3 d3 => ?_)
  clear h2 d2
  refine oP 167 [2] [1] [(0, .s 0 0 6 32), (1, vu ↑u), (4, vi 6), (20, vb false), (96, vu ↑u), (97, vw (IntKind.u32.wrap (((u : Nat) : Int))))] h3 d3 (fun a4 h4 d4 => ?_)
  clear h3 d3
  rw [show (IntKind.u32.wrap (((u : Nat) : Int))) = ((u : Nat) : Int) from n_c32 (u) (by omega)] at h4
  refine oP 167 [] [2] [(0, .s 0 0 6 32), (1, vu ↑u), (4, vi 6), (12, vw ↑u), (20, vb false)] h4 d4 (fun a5 h5 d5 => ?_)
  clear h4 d4
  show Code.wp _ _ _ _ _
  refine wp_seq ?_
  refine wp_seq (wp_region ?_)
  refine oP 167 [] [0, 1] [(0, .s 0 0 6 32), (1, vu ↑u), (4, vi 6), (12, vw ↑u), (20, vb false), (99, vb true)] h5 d5 (fun a6 h6 d6 => ?_)
  clear h5 d5
  show Code.wp _ _ _ _ _
  refine wp_cond_true (h6.2 99 _ rfl) ?_
  refine wp_seq (wp_region ?_)
  refine oP 167 [1, 2] [0] [(0, .s 0 0 6 32), (1, vu ↑u), (4, vi 6), (12, vw ↑u), (20, vb false), (99, vb true), (100, vw ↑u)] h6 d6 (fun a7 h7 d7 => ?_)
  clear h6 d6
  refine oP 167 [2] [1] [(0, .s 0 0 6 32), (1, vu ↑u), (4, vi 6), (12, vw ↑u), (20, vb false), (99, vb true), (100, vw ↑u), (101, vw (Int.tmod ((u : Nat) : Int) 10000))] h7 d7 (fun a8 h8 d8 => ?_)
  clear h7 d7
  rw [show (Int.tmod ((u : Nat) : Int) 10000) = ((u % 10000 : Nat) : Int) from n_rem (u) 10000] at h8
  refine oP 167 [] [2] [(0, .s 0 0 6 32), (1, vu ↑u), (4, vi 6), (12, vw ↑u), (13, vw ((u % 10000 : Nat) : Int)), (20, vb false), (99, vb true)] h8 d8 (fun a9 h9 d9 => ?_)
  clear h8 d8
  show Code.wp _ _ _ _ _
  refine wp_seq (wp_region ?_)
  refine oP 167 [1, 2] [0] [(0, .s 0 0 6 32), (1, vu ↑u), (4, vi 6), (12, vw ↑u), (13, vw ((u % 10000 : Nat) : Int)), (20, vb false), (99, vb true), (102, vw ↑u)] h9 d9 (fun a10 h10 d10 => ?_)
  clear h9 d9
  refine oP 167 [2] [1] [(0, .s 0 0 6 32), (1, vu ↑u), (4, vi 6), (12, vw ↑u), (13, vw ((u % 10000 : Nat) : Int)), (20, vb false), (99, vb true), (102, vw ↑u), (103, vw (IntKind.u32.wrap (Int.tdiv ((u : Nat) : Int) 10000)))] h10 d10 (fun a11 h11 d11 => ?_)
  clear h10 d10
  rw [show (IntKind.u32.wrap (Int.tdiv ((u : Nat) : Int) 10000)) = ((u / 10000 : Nat) : Int) from n_q32 (u) 10000 (by omega)] at h11
  refine oP 167 [] [2] [(0, .s 0 0 6 32), (1, vu ↑u), (4, vi 6), (12, vw ((u / 10000 : Nat) : Int)), (13, vw ((u % 10000 : Nat) : Int)), (20, vb false), (99, vb true)] h11 d11 (fun a12 h12 d12 => ?_)
  clear h11 d11
  show Code.wp _ _ _ _ _
  refine wp_seq (wp_region ?_)
  refine oP 167 [1, 2, 3, 4, 5, 6, 7] [0] [(0, .s 0 0 6 32), (1, vu ↑u), (4, vi 6), (12, vw ((u / 10000 : Nat) : Int)), (13, vw ((u % 10000 : Nat) : Int)), (20, vb false), (99, vb true), (104, vw ((u % 10000 : Nat) : Int))] h12 d12 (fun a13 h13 d13 => ?_)
  clear h12 d12
  refine oP 167 [2, 3, 4, 5, 6, 7] [1] [(0, .s 0 0 6 32), (1, vu ↑u), (4, vi 6), (12, vw ((u / 10000 : Nat) : Int)), (13, vw ((u % 10000 : Nat) : Int)), (20, vb false), (99, vb true), (104, vw ((u % 10000 : Nat) : Int)), (105, vw (IntKind.u32.wrap (Int.tdiv ((u % 10000 : Nat) : Int) 100)))] h13 d13 (fun a14 h14 d14 => ?_)
  clear h13 d13
  rw [show (IntKind.u32.wrap (Int.tdiv ((u % 10000 : Nat) : Int) 100)) = ((u % 10000 / 100 : Nat) : Int) from n_q32 (u % 10000) 100 (by omega)] at h14
  refine oP 167 [3, 4, 5, 6, 7] [2] [(0, .s 0 0 6 32), (1, vu ↑u), (4, vi 6), (12, vw ((u / 10000 : Nat) : Int)), (13, vw ((u % 10000 : Nat) : Int)), (20, vb false), (99, vb true), (104, vw ((u % 10000 : Nat) : Int)), (105, vw ((u % 10000 / 100 : Nat) : Int)), (106, vw (IntKind.u32.wrap (((u % 10000 / 100 : Nat) : Int) * 2)))] h14 d14 (fun a15 h15 d15 => ?_)
  clear h14 d14
  rw [show (IntKind.u32.wrap (((u % 10000 / 100 : Nat) : Int) * 2)) = ((2 * (u % 10000 / 100) : Nat) : Int) from n_m2 (u % 10000 / 100) (by omega)] at h15
  refine oP 167 [4, 5, 6, 7] [3] [(0, .s 0 0 6 32), (1, vu ↑u), (4, vi 6), (12, vw ((u / 10000 : Nat) : Int)), (13, vw ((u % 10000 : Nat) : Int)), (20, vb false), (99, vb true), (104, vw ((u % 10000 : Nat) : Int)), (105, vw ((u % 10000 / 100 : Nat) : Int)), (106, vw ((2 * (u % 10000 / 100) : Nat) : Int)), (107, vw ((u % 10000 : Nat) : Int))] h15 d15 (fun a16 h16 d16 => ?_)
  clear h15 d15
  refine oP 167 [5, 6, 7] [4] [(0, .s 0 0 6 32), (1, vu ↑u), (4, vi 6), (12, vw ((u / 10000 : Nat) : Int)), (13, vw ((u % 10000 : Nat) : Int)), (20, vb false), (99, vb true), (104, vw ((u % 10000 : Nat) : Int)), (105, vw ((u % 10000 / 100 : Nat) : Int)), (106, vw ((2 * (u % 10000 / 100) : Nat) : Int)), (107, vw ((u % 10000 : Nat) : Int)), (108, vw (Int.tmod ((u % 10000 : Nat) : Int) 100))] h16 d16 (fun a17 h17 d17 => ?_)
  clear h16 d16
  rw [show (Int.tmod ((u % 10000 : Nat) : Int) 100) = ((u % 10000 % 100 : Nat) : Int) from n_rem (u % 10000) 100] at h17
  refine oP 167 [6, 7] [5] [(0, .s 0 0 6 32), (1, vu ↑u), (4, vi 6), (12, vw ((u / 10000 : Nat) : Int)), (13, vw ((u % 10000 : Nat) : Int)), (20, vb false), (99, vb true), (104, vw ((u % 10000 : Nat) : Int)), (105, vw ((u % 10000 / 100 : Nat) : Int)), (106, vw ((2 * (u % 10000 / 100) : Nat) : Int)), (107, vw ((u % 10000 : Nat) : Int)), (108, vw ((u % 10000 % 100 : Nat) : Int)), (109, vw (IntKind.u32.wrap (((u % 10000 % 100 : Nat) : Int) * 2)))] h17 d17 (fun a18 h18 d18 => ?_)
  clear h17 d17
  rw [show (IntKind.u32.wrap (((u % 10000 % 100 : Nat) : Int) * 2)) = ((2 * (u % 10000 % 100) : Nat) : Int) from n_m2 (u % 10000 % 100) (by omega)] at h18
  refine oP 167 [] [6, 7] [(0, .s 0 0 6 32), (1, vu ↑u), (4, vi 6), (12, vw ((u / 10000 : Nat) : Int)), (14, vw ((2 * (u % 10000 / 100) : Nat) : Int)), (15, vw ((2 * (u % 10000 % 100) : Nat) : Int)), (20, vb false), (99, vb true)] h18 d18 (fun a19 h19 d19 => ?_)
  clear h18 d18
  show Code.wp _ _ _ _ _
  refine wp_seq ?_
  refine reg_pair (N := 167) (T := TT) (L := [⟨g, 59, 32, m⟩]) (E := [(0, .s 0 0 6 32), (1, vu ↑u), (4, vi 6), (12, vw ((u / 10000 : Nat) : Int)), (14, vw ((2 * (u % 10000 / 100) : Nat) : Int)), (15, vw ((2 * (u % 10000 % 100) : Nat) : Int)), (20, vb false), (99, vb true)]) (E1 := [(117, vw (IntKind.u32.wrap (((2 * (u % 10000 % 100) : Nat) : Int) + 1))), (116, vw ((2 * (u % 10000 % 100) : Nat) : Int)), (115, vi 4), (114, vi 6), (113, .s 0 0 6 32), (112, vi 5), (111, vi 6), (110, .s 0 0 6 32), (0, .s 0 0 6 32), (1, vu ↑u), (4, vi 6), (12, vw ((u / 10000 : Nat) : Int)), (14, vw ((2 * (u % 10000 / 100) : Nat) : Int)), (15, vw ((2 * (u % 10000 % 100) : Nat) : Int)), (20, vb false), (99, vb true)]) (E2 := [(119, vw ((2 * (u % 10000 % 100) : Nat) : Int)), (118, vo ((48 + (u % 10000 % 100) % 10 : Nat) : Int)), (117, vw (IntKind.u32.wrap (((2 * (u % 10000 % 100) : Nat) : Int) + 1))), (116, vw ((2 * (u % 10000 % 100) : Nat) : Int)), (115, vi 4), (114, vi 6), (113, .s 0 0 6 32), (112, vi 5), (111, vi 6), (110, .s 0 0 6 32), (0, .s 0 0 6 32), (1, vu ↑u), (4, vi 6), (12, vw ((u / 10000 : Nat) : Int)), (14, vw ((2 * (u % 10000 / 100) : Nat) : Int)), (15, vw ((2 * (u % 10000 % 100) : Nat) : Int)), (20, vb false), (99, vb true)]) (E3 := [(121, .p 0 5), (120, vo ((48 + (u % 10000 % 100) / 10 : Nat) : Int)), (119, vw ((2 * (u % 10000 % 100) : Nat) : Int)), (118, vo ((48 + (u % 10000 % 100) % 10 : Nat) : Int)), (117, vw (IntKind.u32.wrap (((2 * (u % 10000 % 100) : Nat) : Int) + 1))), (116, vw ((2 * (u % 10000 % 100) : Nat) : Int)), (115, vi 4), (114, vi 6), (113, .s 0 0 6 32), (112, vi 5), (111, vi 6), (110, .s 0 0 6 32), (0, .s 0 0 6 32), (1, vu ↑u), (4, vi 6), (12, vw ((u / 10000 : Nat) : Int)), (14, vw ((2 * (u % 10000 / 100) : Nat) : Int)), (15, vw ((2 * (u % 10000 % 100) : Nat) : Int)), (20, vb false), (99, vb true)]) (E4 := [(0, .s 0 0 6 32), (1, vu ↑u), (4, vi 6), (12, vw ((u / 10000 : Nat) : Int)), (14, vw ((2 * (u % 10000 / 100) : Nat) : Int)), (20, vb false), (99, vb true)]) (E5 := [(122, .p 0 4), (121, .p 0 5), (120, vo ((48 + (u % 10000 % 100) / 10 : Nat) : Int)), (119, vw ((2 * (u % 10000 % 100) : Nat) : Int)), (118, vo ((48 + (u % 10000 % 100) % 10 : Nat) : Int)), (117, vw (IntKind.u32.wrap (((2 * (u % 10000 % 100) : Nat) : Int) + 1))), (116, vw ((2 * (u % 10000 % 100) : Nat) : Int)), (115, vi 4), (114, vi 6), (113, .s 0 0 6 32), (112, vi 5), (111, vi 6), (110, .s 0 0 6 32), (0, .s 0 0 6 32), (1, vu ↑u), (4, vi 6), (12, vw ((u / 10000 : Nat) : Int)), (14, vw ((2 * (u % 10000 / 100) : Nat) : Int)), (15, vw ((2 * (u % 10000 % 100) : Nat) : Int)), (20, vb false), (99, vb true)]) (k := 0) (i := 5) (j := 4) (d8 := 118) (d10 := 120) (va := .int .u8 ((48 + (u % 10000 % 100) % 10 : Nat) : Int)) (vb := .int .u8 ((48 + (u % 10000 % 100) / 10 : Nat) : Int)) (by kernel_rfl) tabOk h19 M0 rfl (by kernel_rfl) (fun _ _ _ _ hd h => And.intro (hd.trans (And.left h)) (And.right h)) (by kernel_rfl) rfl rfl rfl (by decide) (fun a' h' W' => sm_lo (q := u % 10000 % 100) (by omega) rfl rfl (h'.2 117 _ rfl) (by kernel_rfl)) (by kernel_rfl) rfl rfl rfl (by decide) (fun a' h' W' => sm_hi (q := u % 10000 % 100) (by omega) rfl rfl (h'.2 119 _ rfl) (by kernel_rfl)) (by kernel_rfl) (by kernel_rfl) (by kernel_rfl) (by kernel_rfl) (by decide) rfl rfl sE (fun a20 W20 h20 d20 M20 G20 => ?_)
  replace d20 := d20.trans d19
  clear h19 d19
  replace M20 : Mw (bn [g]) [⟨g, 59, 32, (upm (upm m 5 (.int .u8 ((48 + (u % 10000 % 100) % 10 : Nat) : Int))) 4 (.int .u8 ((48 + (u % 10000 % 100) / 10 : Nat) : Int)))⟩] W20 := M20
  replace F := F.trans G20
  clear M0
  show Code.wp _ _ _ _ _
  refine wp_seq ?_
  refine reg_pair (N := 167) (T := TT) (L := [⟨g, 59, 32, (upm (upm m 5 (.int .u8 ((48 + (u % 10000 % 100) % 10 : Nat) : Int))) 4 (.int .u8 ((48 + (u % 10000 % 100) / 10 : Nat) : Int)))⟩]) (E := [(0, .s 0 0 6 32), (1, vu ↑u), (4, vi 6), (12, vw ((u / 10000 : Nat) : Int)), (14, vw ((2 * (u % 10000 / 100) : Nat) : Int)), (20, vb false), (99, vb true)]) (E1 := [(130, vw (IntKind.u32.wrap (((2 * (u % 10000 / 100) : Nat) : Int) + 1))), (129, vw ((2 * (u % 10000 / 100) : Nat) : Int)), (128, vi 2), (127, vi 6), (126, .s 0 0 6 32), (125, vi 3), (124, vi 6), (123, .s 0 0 6 32), (0, .s 0 0 6 32), (1, vu ↑u), (4, vi 6), (12, vw ((u / 10000 : Nat) : Int)), (14, vw ((2 * (u % 10000 / 100) : Nat) : Int)), (20, vb false), (99, vb true)]) (E2 := [(132, vw ((2 * (u % 10000 / 100) : Nat) : Int)), (131, vo ((48 + (u % 10000 / 100) % 10 : Nat) : Int)), (130, vw (IntKind.u32.wrap (((2 * (u % 10000 / 100) : Nat) : Int) + 1))), (129, vw ((2 * (u % 10000 / 100) : Nat) : Int)), (128, vi 2), (127, vi 6), (126, .s 0 0 6 32), (125, vi 3), (124, vi 6), (123, .s 0 0 6 32), (0, .s 0 0 6 32), (1, vu ↑u), (4, vi 6), (12, vw ((u / 10000 : Nat) : Int)), (14, vw ((2 * (u % 10000 / 100) : Nat) : Int)), (20, vb false), (99, vb true)]) (E3 := [(134, .p 0 3), (133, vo ((48 + (u % 10000 / 100) / 10 : Nat) : Int)), (132, vw ((2 * (u % 10000 / 100) : Nat) : Int)), (131, vo ((48 + (u % 10000 / 100) % 10 : Nat) : Int)), (130, vw (IntKind.u32.wrap (((2 * (u % 10000 / 100) : Nat) : Int) + 1))), (129, vw ((2 * (u % 10000 / 100) : Nat) : Int)), (128, vi 2), (127, vi 6), (126, .s 0 0 6 32), (125, vi 3), (124, vi 6), (123, .s 0 0 6 32), (0, .s 0 0 6 32), (1, vu ↑u), (4, vi 6), (12, vw ((u / 10000 : Nat) : Int)), (14, vw ((2 * (u % 10000 / 100) : Nat) : Int)), (20, vb false), (99, vb true)]) (E4 := [(0, .s 0 0 6 32), (1, vu ↑u), (4, vi 6), (12, vw ((u / 10000 : Nat) : Int)), (20, vb false), (99, vb true)]) (E5 := [(135, .p 0 2), (134, .p 0 3), (133, vo ((48 + (u % 10000 / 100) / 10 : Nat) : Int)), (132, vw ((2 * (u % 10000 / 100) : Nat) : Int)), (131, vo ((48 + (u % 10000 / 100) % 10 : Nat) : Int)), (130, vw (IntKind.u32.wrap (((2 * (u % 10000 / 100) : Nat) : Int) + 1))), (129, vw ((2 * (u % 10000 / 100) : Nat) : Int)), (128, vi 2), (127, vi 6), (126, .s 0 0 6 32), (125, vi 3), (124, vi 6), (123, .s 0 0 6 32), (0, .s 0 0 6 32), (1, vu ↑u), (4, vi 6), (12, vw ((u / 10000 : Nat) : Int)), (14, vw ((2 * (u % 10000 / 100) : Nat) : Int)), (20, vb false), (99, vb true)]) (k := 0) (i := 3) (j := 2) (d8 := 131) (d10 := 133) (va := .int .u8 ((48 + (u % 10000 / 100) % 10 : Nat) : Int)) (vb := .int .u8 ((48 + (u % 10000 / 100) / 10 : Nat) : Int)) (by kernel_rfl) tabOk h20 M20 rfl (by kernel_rfl) (fun _ _ _ _ hd h => And.intro (hd.trans (And.left h)) (And.right h)) (by kernel_rfl) rfl rfl rfl (by decide) (fun a' h' W' => sm_lo (q := u % 10000 / 100) (by omega) rfl rfl (h'.2 130 _ rfl) (by kernel_rfl)) (by kernel_rfl) rfl rfl rfl (by decide) (fun a' h' W' => sm_hi (q := u % 10000 / 100) (by omega) rfl rfl (h'.2 132 _ rfl) (by kernel_rfl)) (by kernel_rfl) (by kernel_rfl) (by kernel_rfl) (by kernel_rfl) (by decide) rfl rfl sE (fun a21 W21 h21 d21 M21 G21 => ?_)
  replace d21 := d21.trans d20
  clear h20 d20
  replace M21 : Mw (bn [g]) [⟨g, 59, 32, (upm (upm (upm (upm m 5 (.int .u8 ((48 + (u % 10000 % 100) % 10 : Nat) : Int))) 4 (.int .u8 ((48 + (u % 10000 % 100) / 10 : Nat) : Int))) 3 (.int .u8 ((48 + (u % 10000 / 100) % 10 : Nat) : Int))) 2 (.int .u8 ((48 + (u % 10000 / 100) / 10 : Nat) : Int)))⟩] W21 := M21
  replace F := F.trans G21
  clear M20
  show Code.wp _ _ _ _ _
  refine wp_region ?_
  refine oP 167 [] [0, 1, 2] [(0, .s 0 0 6 32), (1, vu ↑u), (4, vi 2), (12, vw ((u / 10000 : Nat) : Int)), (20, vb false), (99, vb true)] h21 d21 (fun a22 h22 d22 => ?_)
  clear h21 d21
  show Code.wp _ _ _ _ _
  refine wp_seq ?_
  refine wp_seq (wp_region ?_)
  refine oP 167 [] [0, 1] [(0, .s 0 0 6 32), (1, vu ↑u), (4, vi 2), (12, vw ((u / 10000 : Nat) : Int)), (20, vb false), (99, vb true), (139, vb true)] h22 d22 (fun a23 h23 d23 => ?_)
  clear h22 d22
  show Code.wp _ _ _ _ _
  refine wp_cond_true (h23.2 139 _ rfl) ?_
  refine wp_seq (wp_region ?_)
  refine oP 167 [1, 2, 3] [0] [(0, .s 0 0 6 32), (1, vu ↑u), (4, vi 2), (12, vw ((u / 10000 : Nat) : Int)), (20, vb false), (99, vb true), (139, vb true), (140, vw ((u / 10000 : Nat) : Int))] h23 d23 (fun a24 h24 d24 => ?_)
  clear h23 d23
  refine oP 167 [2, 3] [1] [(0, .s 0 0 6 32), (1, vu ↑u), (4, vi 2), (12, vw ((u / 10000 : Nat) : Int)), (20, vb false), (99, vb true), (139, vb true), (140, vw ((u / 10000 : Nat) : Int)), (141, vw (Int.tmod ((u / 10000 : Nat) : Int) 100))] h24 d24 (fun a25 h25 d25 => ?_)
  clear h24 d24
  rw [show (Int.tmod ((u / 10000 : Nat) : Int) 100) = ((u / 10000 % 100 : Nat) : Int) from n_rem (u / 10000) 100] at h25
  refine oP 167 [3] [2] [(0, .s 0 0 6 32), (1, vu ↑u), (4, vi 2), (12, vw ((u / 10000 : Nat) : Int)), (20, vb false), (99, vb true), (139, vb true), (140, vw ((u / 10000 : Nat) : Int)), (141, vw ((u / 10000 % 100 : Nat) : Int)), (142, vw (IntKind.u32.wrap (((u / 10000 % 100 : Nat) : Int) * 2)))] h25 d25 (fun a26 h26 d26 => ?_)
  clear h25 d25
  rw [show (IntKind.u32.wrap (((u / 10000 % 100 : Nat) : Int) * 2)) = ((2 * (u / 10000 % 100) : Nat) : Int) from n_m2 (u / 10000 % 100) (by omega)] at h26
  refine oP 167 [] [3] [(0, .s 0 0 6 32), (1, vu ↑u), (4, vi 2), (12, vw ((u / 10000 : Nat) : Int)), (16, vw ((2 * (u / 10000 % 100) : Nat) : Int)), (20, vb false), (99, vb true), (139, vb true)] h26 d26 (fun a27 h27 d27 => ?_)
  clear h26 d26
  show Code.wp _ _ _ _ _
  refine wp_seq (wp_region ?_)
  refine oP 167 [1, 2] [0] [(0, .s 0 0 6 32), (1, vu ↑u), (4, vi 2), (12, vw ((u / 10000 : Nat) : Int)), (16, vw ((2 * (u / 10000 % 100) : Nat) : Int)), (20, vb false), (99, vb true), (139, vb true), (143, vw ((u / 10000 : Nat) : Int))] h27 d27 (fun a28 h28 d28 => ?_)
  clear h27 d27
  refine oP 167 [2] [1] [(0, .s 0 0 6 32), (1, vu ↑u), (4, vi 2), (12, vw ((u / 10000 : Nat) : Int)), (16, vw ((2 * (u / 10000 % 100) : Nat) : Int)), (20, vb false), (99, vb true), (139, vb true), (143, vw ((u / 10000 : Nat) : Int)), (144, vw (IntKind.u32.wrap (Int.tdiv ((u / 10000 : Nat) : Int) 100)))] h28 d28 (fun a29 h29 d29 => ?_)
  clear h28 d28
  rw [show (IntKind.u32.wrap (Int.tdiv ((u / 10000 : Nat) : Int) 100)) = ((u / 10000 / 100 : Nat) : Int) from n_q32 (u / 10000) 100 (by omega)] at h29
  refine oP 167 [] [2] [(0, .s 0 0 6 32), (1, vu ↑u), (4, vi 2), (12, vw ((u / 10000 / 100 : Nat) : Int)), (16, vw ((2 * (u / 10000 % 100) : Nat) : Int)), (20, vb false), (99, vb true), (139, vb true)] h29 d29 (fun a30 h30 d30 => ?_)
  clear h29 d29
  show Code.wp _ _ _ _ _
  refine wp_seq ?_
  refine reg_pair (N := 167) (T := TT) (L := [⟨g, 59, 32, (upm (upm (upm (upm m 5 (.int .u8 ((48 + (u % 10000 % 100) % 10 : Nat) : Int))) 4 (.int .u8 ((48 + (u % 10000 % 100) / 10 : Nat) : Int))) 3 (.int .u8 ((48 + (u % 10000 / 100) % 10 : Nat) : Int))) 2 (.int .u8 ((48 + (u % 10000 / 100) / 10 : Nat) : Int)))⟩]) (E := [(0, .s 0 0 6 32), (1, vu ↑u), (4, vi 2), (12, vw ((u / 10000 / 100 : Nat) : Int)), (16, vw ((2 * (u / 10000 % 100) : Nat) : Int)), (20, vb false), (99, vb true), (139, vb true)]) (E1 := [(152, vw (IntKind.u32.wrap (((2 * (u / 10000 % 100) : Nat) : Int) + 1))), (151, vw ((2 * (u / 10000 % 100) : Nat) : Int)), (150, vi 0), (149, vi 2), (148, .s 0 0 6 32), (147, vi 1), (146, vi 2), (145, .s 0 0 6 32), (0, .s 0 0 6 32), (1, vu ↑u), (4, vi 2), (12, vw ((u / 10000 / 100 : Nat) : Int)), (16, vw ((2 * (u / 10000 % 100) : Nat) : Int)), (20, vb false), (99, vb true), (139, vb true)]) (E2 := [(154, vw ((2 * (u / 10000 % 100) : Nat) : Int)), (153, vo ((48 + (u / 10000 % 100) % 10 : Nat) : Int)), (152, vw (IntKind.u32.wrap (((2 * (u / 10000 % 100) : Nat) : Int) + 1))), (151, vw ((2 * (u / 10000 % 100) : Nat) : Int)), (150, vi 0), (149, vi 2), (148, .s 0 0 6 32), (147, vi 1), (146, vi 2), (145, .s 0 0 6 32), (0, .s 0 0 6 32), (1, vu ↑u), (4, vi 2), (12, vw ((u / 10000 / 100 : Nat) : Int)), (16, vw ((2 * (u / 10000 % 100) : Nat) : Int)), (20, vb false), (99, vb true), (139, vb true)]) (E3 := [(156, .p 0 1), (155, vo ((48 + (u / 10000 % 100) / 10 : Nat) : Int)), (154, vw ((2 * (u / 10000 % 100) : Nat) : Int)), (153, vo ((48 + (u / 10000 % 100) % 10 : Nat) : Int)), (152, vw (IntKind.u32.wrap (((2 * (u / 10000 % 100) : Nat) : Int) + 1))), (151, vw ((2 * (u / 10000 % 100) : Nat) : Int)), (150, vi 0), (149, vi 2), (148, .s 0 0 6 32), (147, vi 1), (146, vi 2), (145, .s 0 0 6 32), (0, .s 0 0 6 32), (1, vu ↑u), (4, vi 2), (12, vw ((u / 10000 / 100 : Nat) : Int)), (16, vw ((2 * (u / 10000 % 100) : Nat) : Int)), (20, vb false), (99, vb true), (139, vb true)]) (E4 := [(0, .s 0 0 6 32), (1, vu ↑u), (4, vi 2), (12, vw ((u / 10000 / 100 : Nat) : Int)), (20, vb false), (99, vb true), (139, vb true)]) (E5 := [(157, .p 0 0), (156, .p 0 1), (155, vo ((48 + (u / 10000 % 100) / 10 : Nat) : Int)), (154, vw ((2 * (u / 10000 % 100) : Nat) : Int)), (153, vo ((48 + (u / 10000 % 100) % 10 : Nat) : Int)), (152, vw (IntKind.u32.wrap (((2 * (u / 10000 % 100) : Nat) : Int) + 1))), (151, vw ((2 * (u / 10000 % 100) : Nat) : Int)), (150, vi 0), (149, vi 2), (148, .s 0 0 6 32), (147, vi 1), (146, vi 2), (145, .s 0 0 6 32), (0, .s 0 0 6 32), (1, vu ↑u), (4, vi 2), (12, vw ((u / 10000 / 100 : Nat) : Int)), (16, vw ((2 * (u / 10000 % 100) : Nat) : Int)), (20, vb false), (99, vb true), (139, vb true)]) (k := 0) (i := 1) (j := 0) (d8 := 153) (d10 := 155) (va := .int .u8 ((48 + (u / 10000 % 100) % 10 : Nat) : Int)) (vb := .int .u8 ((48 + (u / 10000 % 100) / 10 : Nat) : Int)) (by kernel_rfl) tabOk h30 M21 rfl (by kernel_rfl) (fun _ _ _ _ hd h => And.intro (hd.trans (And.left h)) (And.right h)) (by kernel_rfl) rfl rfl rfl (by decide) (fun a' h' W' => sm_lo (q := u / 10000 % 100) (by omega) rfl rfl (h'.2 152 _ rfl) (by kernel_rfl)) (by kernel_rfl) rfl rfl rfl (by decide) (fun a' h' W' => sm_hi (q := u / 10000 % 100) (by omega) rfl rfl (h'.2 154 _ rfl) (by kernel_rfl)) (by kernel_rfl) (by kernel_rfl) (by kernel_rfl) (by kernel_rfl) (by decide) rfl rfl sE (fun a31 W31 h31 d31 M31 G31 => ?_)
  replace d31 := d31.trans d30
  clear h30 d30
  replace M31 : Mw (bn [g]) [⟨g, 59, 32, (upm (upm (upm (upm (upm (upm m 5 (.int .u8 ((48 + (u % 10000 % 100) % 10 : Nat) : Int))) 4 (.int .u8 ((48 + (u % 10000 % 100) / 10 : Nat) : Int))) 3 (.int .u8 ((48 + (u % 10000 / 100) % 10 : Nat) : Int))) 2 (.int .u8 ((48 + (u % 10000 / 100) / 10 : Nat) : Int))) 1 (.int .u8 ((48 + (u / 10000 % 100) % 10 : Nat) : Int))) 0 (.int .u8 ((48 + (u / 10000 % 100) / 10 : Nat) : Int)))⟩] W31 := M31
  replace F := F.trans G31
  clear M21
  show Code.wp _ _ _ _ _
  refine wp_region ?_
  refine oP 167 [] [0, 1, 2] [(0, .s 0 0 6 32), (1, vu ↑u), (4, vi 0), (12, vw ((u / 10000 / 100 : Nat) : Int)), (20, vb false), (99, vb true), (139, vb true)] h31 d31 (fun a32 h32 d32 => ?_)
  clear h31 d31
  show Code.wp _ _ _ _ _
  refine wp_seq (wp_region ?_)
  refine oP 167 [] [0, 1] [(0, .s 0 0 6 32), (1, vu ↑u), (4, vi 0), (12, vw ((u / 10000 / 100 : Nat) : Int)), (20, vb false), (99, vb true), (139, vb true), (161, vb false)] h32 d32 (fun a33 h33 d33 => ?_)
  clear h32 d32
  show Code.wp _ _ _ _ _
  refine wp_cond_false (h33.2 161 _ rfl) ?_
  refine wp_skip ?_
  refine ⟨d33, _, results_none rfl _ _ _, rfl, ?_, F⟩
  refine Bl.In.eq (M31.2.get (k := 0) rfl) (fun i hi => ?_)
  by_cases q0 : i = 0
  · subst q0
    show Value.int .u8 ((48 + (u / 10000 % 100) / 10 : Nat) : Int) = Value.int .u8 ((48 + u / 100000 % 10 : Nat) : Int)
    rw [show 48 + (u / 10000 % 100) / 10 = 48 + u / 100000 % 10 from by omega]
  by_cases q1 : i = 1
  · subst q1
    show Value.int .u8 ((48 + (u / 10000 % 100) % 10 : Nat) : Int) = Value.int .u8 ((48 + u / 10000 % 10 : Nat) : Int)
    rw [show 48 + (u / 10000 % 100) % 10 = 48 + u / 10000 % 10 from by omega]
  by_cases q2 : i = 2
  · subst q2
    show Value.int .u8 ((48 + (u % 10000 / 100) / 10 : Nat) : Int) = Value.int .u8 ((48 + u / 1000 % 10 : Nat) : Int)
    rw [show 48 + (u % 10000 / 100) / 10 = 48 + u / 1000 % 10 from by omega]
  by_cases q3 : i = 3
  · subst q3
    show Value.int .u8 ((48 + (u % 10000 / 100) % 10 : Nat) : Int) = Value.int .u8 ((48 + u / 100 % 10 : Nat) : Int)
    rw [show 48 + (u % 10000 / 100) % 10 = 48 + u / 100 % 10 from by omega]
  by_cases q4 : i = 4
  · subst q4
    show Value.int .u8 ((48 + (u % 10000 % 100) / 10 : Nat) : Int) = Value.int .u8 ((48 + u / 10 % 10 : Nat) : Int)
    rw [show 48 + (u % 10000 % 100) / 10 = 48 + u / 10 % 10 from by omega]
  by_cases q5 : i = 5
  · subst q5
    show Value.int .u8 ((48 + (u % 10000 % 100) % 10 : Nat) : Int) = Value.int .u8 ((48 + u / 1 % 10 : Nat) : Int)
    rw [show 48 + (u % 10000 % 100) % 10 = 48 + u / 1 % 10 from by omega]
  unfold dgM
  rw [if_neg (by omega)]
  show (upm (upm (upm (upm (upm (upm m 5 (.int .u8 ((48 + (u % 10000 % 100) % 10 : Nat) : Int))) 4 (.int .u8 ((48 + (u % 10000 % 100) / 10 : Nat) : Int))) 3 (.int .u8 ((48 + (u % 10000 / 100) % 10 : Nat) : Int))) 2 (.int .u8 ((48 + (u % 10000 / 100) / 10 : Nat) : Int))) 1 (.int .u8 ((48 + (u / 10000 % 100) % 10 : Nat) : Int))) 0 (.int .u8 ((48 + (u / 10000 % 100) / 10 : Nat) : Int))) i = _
  unfold upm
  repeat rw [if_neg (by omega)]
end Go.Proofs.YtmgnffklmdhooaaDoor.PAll
namespace Go.Proofs.YtmgnffklmdhooaaDoor.PAll
open Go.RowKit Go.Proofs.YtmgnffklmdhooaaDoorW.PrintWords Go.Proofs.YtmgnffklmdhooaaDoorW.PrintLast Go.Proofs.YtmgnffklmdhooaaDoorW.PrintMore
set_option linter.unusedVariables false
set_option linter.unusedSimpArgs false
set_option maxHeartbeats 8000000 in
set_option maxRecDepth 100000 in
theorem fmt7_walk (g u : Nat) (m : Nat → Value) (hu : u < 10000000) (w : World) (hg : (⟨g, 59, 32, m⟩ : Bl).In w) :
    Calls Tryd.prog 55 #[.slice (some ⟨g, 0, none⟩) 7 32, .int .u64 (u : Int)] w fun e' w' => e' = .returned (.tuple #[]) ∧ (⟨g, 59, 32, dgM m 7 u⟩ : Bl).In w' ∧ Fr [g] w w' := by
  refine calls_of_wp Tryd.func55 rfl ?_
  have h0 := has_two (β := bn [g]) (.s 0 0 7 32) (vu (u : Int)) 165
  have d0 : (⟨#[.slice (some ⟨g, 0, none⟩) 7 32, .int .u64 (u : Int)] ++ Array.replicate 165 undef, []⟩ : Act).defers = [] := rfl
  have M0 : Mw (bn [g]) [⟨g, 59, 32, m⟩] w := ⟨bg_bn _, hg, by simp, trivial⟩
  have F := Fr.refl [g] w
  refine wp_seq (wp_region ?_)
  refine oP 167 [] [0, 1, 2] [(0, .s 0 0 7 32), (1, vu ↑u), (4, vi 7)] h0 d0 (fun a1 h1 d1 => ?_)
  clear h0 d0
  show Code.wp _ _ _ _ _
  refine wp_seq ?_
  refine wp_block ?_
  refine wp_loop_rounds 1 ?_
  rw [rounds_succ]
  refine wp_seq ?_
  refine wp_seq (wp_region ?_)
  refine oP 167 [] [0, 1] [(0, .s 0 0 7 32), (1, vu ↑u), (4, vi 7), (20, vb false)] h1 d1 (fun a2 h2 d2 => ?_)
  clear h1 d1
  show Code.wp _ _ _ _ _
  refine wp_cond_false (h2.2 20 _ rfl) ?_
  refine wp_exit ?_
  refine then_exit (then_exit (exit_in ?_))
  show Code.wp _ _ _ _ _
  refine wp_seq (wp_region ?_)
  refine oP 167 [1, 2] [0] [(0, .s 0 0 7 32), (1, vu ↑u), (4, vi 7), (20, vb false), (96, vu ↑u)] h2 d2 (fun a3 h3 d3 => ?_)
  clear h2 d2
  refine oP 167 [2] [1] [(0, .s 0 0 7 32), (1, vu ↑u), (4, vi 7), (20, vb false), (96, vu ↑u), (97, vw (IntKind.u32.wrap (((u : Nat) : Int))))] h3 d3 (fun a4 h4 d4 => ?_)
  clear h3 d3
  rw [show (IntKind.u32.wrap (((u : Nat) : Int))) = ((u : Nat) : Int) from n_c32 (u) (by omega)] at h4
  refine oP 167 [] [2] [(0, .s 0 0 7 32), (1, vu ↑u), (4, vi 7), (12, vw ↑u), (20, vb false)] h4 d4 (fun a5 h5 d5 => ?_)
  clear h4 d4
  show Code.wp _ _ _ _ _
  refine wp_seq ?_
  refine wp_seq (wp_region ?_)
  refine oP 167 [] [0, 1] [(0, .s 0 0 7 32), (1, vu ↑u), (4, vi 7), (12, vw ↑u), (20, vb false), (99, vb true)] h5 d5 (fun a6 h6 d6 => ?_)
  clear h5 d5
  show Code.wp _ _ _ _ _
  refine wp_cond_true (h6.2 99 _ rfl) ?_
  refine wp_seq (wp_region ?_)
  refine oP 167 [1, 2] [0] [(0, .s 0 0 7 32), (1, vu ↑u), (4, vi 7), (12, vw ↑u), (20, vb false), (99, vb true), (100, vw ↑u)] h6 d6 (fun a7 h7 d7 => ?_)
  clear h6 d6
  refine oP 167 [2] [1] [(0, .s 0 0 7 32), (1, vu ↑u), (4, vi 7), (12, vw ↑u), (20, vb false), (99, vb true), (100, vw ↑u), (101, vw (Int.tmod ((u : Nat) : Int) 10000))] h7 d7 (fun a8 h8 d8 => ?_)
  clear h7 d7
  rw [show (Int.tmod ((u : Nat) : Int) 10000) = ((u % 10000 : Nat) : Int) from n_rem (u) 10000] at h8
  refine oP 167 [] [2] [(0, .s 0 0 7 32), (1, vu ↑u), (4, vi 7), (12, vw ↑u), (13, vw ((u % 10000 : Nat) : Int)), (20, vb false), (99, vb true)] h8 d8 (fun a9 h9 d9 => ?_)
  clear h8 d8
  show Code.wp _ _ _ _ _
  refine wp_seq (wp_region ?_)
  refine oP 167 [1, 2] [0] [(0, .s 0 0 7 32), (1, vu ↑u), (4, vi 7), (12, vw ↑u), (13, vw ((u % 10000 : Nat) : Int)), (20, vb false), (99, vb true), (102, vw ↑u)] h9 d9 (fun a10 h10 d10 => ?_)
  clear h9 d9
  refine oP 167 [2] [1] [(0, .s 0 0 7 32), (1, vu ↑u), (4, vi 7), (12, vw ↑u), (13, vw ((u % 10000 : Nat) : Int)), (20, vb false), (99, vb true), (102, vw ↑u), (103, vw (IntKind.u32.wrap (Int.tdiv ((u : Nat) : Int) 10000)))] h10 d10 (fun a11 h11 d11 => ?_)
  clear h10 d10
  rw [show (IntKind.u32.wrap (Int.tdiv ((u : Nat) : Int) 10000)) = ((u / 10000 : Nat) : Int) from n_q32 (u) 10000 (by omega)] at h11
  refine oP 167 [] [2] [(0, .s 0 0 7 32), (1, vu ↑u), (4, vi 7), (12, vw ((u / 10000 : Nat) : Int)), (13, vw ((u % 10000 : Nat) : Int)), (20, vb false), (99, vb true)] h11 d11 (fun a12 h12 d12 => ?_)
  clear h11 d11
  show Code.wp _ _ _ _ _
  refine wp_seq (wp_region ?_)
  refine oP 167 [1, 2, 3, 4, 5, 6, 7] [0] [(0, .s 0 0 7 32), (1, vu ↑u), (4, vi 7), (12, vw ((u / 10000 : Nat) : Int)), (13, vw ((u % 10000 : Nat) : Int)), (20, vb false), (99, vb true), (104, vw ((u % 10000 : Nat) : Int))] h12 d12 (fun a13 h13 d13 => ?_)
  clear h12 d12
  refine oP 167 [2, 3, 4, 5, 6, 7] [1] [(0, .s 0 0 7 32), (1, vu ↑u), (4, vi 7), (12, vw ((u / 10000 : Nat) : Int)), (13, vw ((u % 10000 : Nat) : Int)), (20, vb false), (99, vb true), (104, vw ((u % 10000 : Nat) : Int)), (105, vw (IntKind.u32.wrap (Int.tdiv ((u % 10000 : Nat) : Int) 100)))] h13 d13 (fun a14 h14 d14 => ?_)
  clear h13 d13
  rw [show (IntKind.u32.wrap (Int.tdiv ((u % 10000 : Nat) : Int) 100)) = ((u % 10000 / 100 : Nat) : Int) from n_q32 (u % 10000) 100 (by omega)] at h14
  refine oP 167 [3, 4, 5, 6, 7] [2] [(0, .s 0 0 7 32), (1, vu ↑u), (4, vi 7), (12, vw ((u / 10000 : Nat) : Int)), (13, vw ((u % 10000 : Nat) : Int)), (20, vb false), (99, vb true), (104, vw ((u % 10000 : Nat) : Int)), (105, vw ((u % 10000 / 100 : Nat) : Int)), (106, vw (IntKind.u32.wrap (((u % 10000 / 100 : Nat) : Int) * 2)))] h14 d14 (fun a15 h15 d15 => ?_)
  clear h14 d14
  rw [show (IntKind.u32.wrap (((u % 10000 / 100 : Nat) : Int) * 2)) = ((2 * (u % 10000 / 100) : Nat) : Int) from n_m2 (u % 10000 / 100) (by omega)] at h15
  refine oP 167 [4, 5, 6, 7] [3] [(0, .s 0 0 7 32), (1, vu ↑u), (4, vi 7), (12, vw ((u / 10000 : Nat) : Int)), (13, vw ((u % 10000 : Nat) : Int)), (20, vb false), (99, vb true), (104, vw ((u % 10000 : Nat) : Int)), (105, vw ((u % 10000 / 100 : Nat) : Int)), (106, vw ((2 * (u % 10000 / 100) : Nat) : Int)), (107, vw ((u % 10000 : Nat) : Int))] h15 d15 (fun a16 h16 d16 => ?_)
  clear h15 d15
  refine oP 167 [5, 6, 7] [4] [(0, .s 0 0 7 32), (1, vu ↑u), (4, vi 7), (12, vw ((u / 10000 : Nat) : Int)), (13, vw ((u % 10000 : Nat) : Int)), (20, vb false), (99, vb true), (104, vw ((u % 10000 : Nat) : Int)), (105, vw ((u % 10000 / 100 : Nat) : Int)), (106, vw ((2 * (u % 10000 / 100) : Nat) : Int)), (107, vw ((u % 10000 : Nat) : Int)), (108, vw (Int.tmod ((u % 10000 : Nat) : Int) 100))] h16 d16 (fun a17 h17 d17 => ?_)
  clear h16 d16
  rw [show (Int.tmod ((u % 10000 : Nat) : Int) 100) = ((u % 10000 % 100 : Nat) : Int) from n_rem (u % 10000) 100] at h17
  refine oP 167 [6, 7] [5] [(0, .s 0 0 7 32), (1, vu ↑u), (4, vi 7), (12, vw ((u / 10000 : Nat) : Int)), (13, vw ((u % 10000 : Nat) : Int)), (20, vb false), (99, vb true), (104, vw ((u % 10000 : Nat) : Int)), (105, vw ((u % 10000 / 100 : Nat) : Int)), (106, vw ((2 * (u % 10000 / 100) : Nat) : Int)), (107, vw ((u % 10000 : Nat) : Int)), (108, vw ((u % 10000 % 100 : Nat) : Int)), (109, vw (IntKind.u32.wrap (((u % 10000 % 100 : Nat) : Int) * 2)))] h17 d17 (fun a18 h18 d18 => ?_)
  clear h17 d17
  rw [show (IntKind.u32.wrap (((u % 10000 % 100 : Nat) : Int) * 2)) = ((2 * (u % 10000 % 100) : Nat) : Int) from n_m2 (u % 10000 % 100) (by omega)] at h18
  refine oP 167 [] [6, 7] [(0, .s 0 0 7 32), (1, vu ↑u), (4, vi 7), (12, vw ((u / 10000 : Nat) : Int)), (14, vw ((2 * (u % 10000 / 100) : Nat) : Int)), (15, vw ((2 * (u % 10000 % 100) : Nat) : Int)), (20, vb false), (99, vb true)] h18 d18 (fun a19 h19 d19 => ?_)
  clear h18 d18
  show Code.wp _ _ _ _ _
  refine wp_seq ?_
  refine reg_pair (N := 167) (T := TT) (L := [⟨g, 59, 32, m⟩]) (E := [(0, .s 0 0 7 32), (1, vu ↑u), (4, vi 7), (12, vw ((u / 10000 : Nat) : Int)), (14, vw ((2 * (u % 10000 / 100) : Nat) : Int)), (15, vw ((2 * (u % 10000 % 100) : Nat) : Int)), (20, vb false), (99, vb true)]) (E1 := [(117, vw (IntKind.u32.wrap (((2 * (u % 10000 % 100) : Nat) : Int) + 1))), (116, vw ((2 * (u % 10000 % 100) : Nat) : Int)), (115, vi 5), (114, vi 7), (113, .s 0 0 7 32), (112, vi 6), (111, vi 7), (110, .s 0 0 7 32), (0, .s 0 0 7 32), (1, vu ↑u), (4, vi 7), (12, vw ((u / 10000 : Nat) : Int)), (14, vw ((2 * (u % 10000 / 100) : Nat) : Int)), (15, vw ((2 * (u % 10000 % 100) : Nat) : Int)), (20, vb false), (99, vb true)]) (E2 := [(119, vw ((2 * (u % 10000 % 100) : Nat) : Int)), (118, vo ((48 + (u % 10000 % 100) % 10 : Nat) : Int)), (117, vw (IntKind.u32.wrap (((2 * (u % 10000 % 100) : Nat) : Int) + 1))), (116, vw ((2 * (u % 10000 % 100) : Nat) : Int)), (115, vi 5), (114, vi 7), (113, .s 0 0 7 32), (112, vi 6), (111, vi 7), (110, .s 0 0 7 32), (0, .s 0 0 7 32), (1, vu ↑u), (4, vi 7), (12, vw ((u / 10000 : Nat) : Int)), (14, vw ((2 * (u % 10000 / 100) : Nat) : Int)), (15, vw ((2 * (u % 10000 % 100) : Nat) : Int)), (20, vb false), (99, vb true)]) (E3 := [(121, .p 0 6), (120, vo ((48 + (u % 10000 % 100) / 10 : Nat) : Int)), (119, vw ((2 * (u % 10000 % 100) : Nat) : Int)), (118, vo ((48 + (u % 10000 % 100) % 10 : Nat) : Int)), (117, vw (IntKind.u32.wrap (((2 * (u % 10000 % 100) : Nat) : Int) + 1))), (116, vw ((2 * (u % 10000 % 100) : Nat) : Int)), (115, vi 5), (114, vi 7), (113, .s 0 0 7 32), (112, vi 6), (111, vi 7), (110, .s 0 0 7 32), (0, .s 0 0 7 32), (1, vu ↑u), (4, vi 7), (12, vw ((u / 10000 : Nat) : Int)), (14, vw ((2 * (u % 10000 / 100) : Nat) : Int)), (15, vw ((2 * (u % 10000 % 100) : Nat) : Int)), (20, vb false), (99, vb true)]) (E4 := [(0, .s 0 0 7 32), (1, vu ↑u), (4, vi 7), (12, vw ((u / 10000 : Nat) : Int)), (14, vw ((2 * (u % 10000 / 100) : Nat) : Int)), (20, vb false), (99, vb true)]) (E5 := [(122, .p 0 5), (121, .p 0 6), (120, vo ((48 + (u % 10000 % 100) / 10 : Nat) : Int)), (119, vw ((2 * (u % 10000 % 100) : Nat) : Int)), (118, vo ((48 + (u % 10000 % 100) % 10 : Nat) : Int)), (117, vw (IntKind.u32.wrap (((2 * (u % 10000 % 100) : Nat) : Int) + 1))), (116, vw ((2 * (u % 10000 % 100) : Nat) : Int)), (115, vi 5), (114, vi 7), (113, .s 0 0 7 32), (112, vi 6), (111, vi 7), (110, .s 0 0 7 32), (0, .s 0 0 7 32), (1, vu ↑u), (4, vi 7), (12, vw ((u / 10000 : Nat) : Int)), (14, vw ((2 * (u % 10000 / 100) : Nat) : Int)), (15, vw ((2 * (u % 10000 % 100) : Nat) : Int)), (20, vb false), (99, vb true)]) (k := 0) (i := 6) (j := 5) (d8 := 118) (d10 := 120) (va := .int .u8 ((48 + (u % 10000 % 100) % 10 : Nat) : Int)) (vb := .int .u8 ((48 + (u % 10000 % 100) / 10 : Nat) : Int)) (by kernel_rfl) tabOk h19 M0 rfl (by kernel_rfl) (fun _ _ _ _ hd h => And.intro (hd.trans (And.left h)) (And.right h)) (by kernel_rfl) rfl rfl rfl (by decide) (fun a' h' W' => sm_lo (q := u % 10000 % 100) (by omega) rfl rfl (h'.2 117 _ rfl) (by kernel_rfl)) (by kernel_rfl) rfl rfl rfl (by decide) (fun a' h' W' => sm_hi (q := u % 10000 % 100) (by omega) rfl rfl (h'.2 119 _ rfl) (by kernel_rfl)) (by kernel_rfl) (by kernel_rfl) (by kernel_rfl) (by kernel_rfl) (by decide) rfl rfl sE (fun a20 W20 h20 d20 M20 G20 => ?_)
  replace d20 := d20.trans d19
  clear h19 d19
  replace M20 : Mw (bn [g]) [⟨g, 59, 32, (upm (upm m 6 (.int .u8 ((48 + (u % 10000 % 100) % 10 : Nat) : Int))) 5 (.int .u8 ((48 + (u % 10000 % 100) / 10 : Nat) : Int)))⟩] W20 := M20
  replace F := F.trans G20
  clear M0
  show Code.wp _ _ _ _ _
  refine wp_seq ?_
  refine reg_pair (N := 167) (T := TT) (L := [⟨g, 59, 32, (upm (upm m 6 (.int .u8 ((48 + (u % 10000 % 100) % 10 : Nat) : Int))) 5 (.int .u8 ((48 + (u % 10000 % 100) / 10 : Nat) : Int)))⟩]) (E := [(0, .s 0 0 7 32), (1, vu ↑u), (4, vi 7), (12, vw ((u / 10000 : Nat) : Int)), (14, vw ((2 * (u % 10000 / 100) : Nat) : Int)), (20, vb false), (99, vb true)]) (E1 := [(130, vw (IntKind.u32.wrap (((2 * (u % 10000 / 100) : Nat) : Int) + 1))), (129, vw ((2 * (u % 10000 / 100) : Nat) : Int)), (128, vi 3), (127, vi 7), (126, .s 0 0 7 32), (125, vi 4), (124, vi 7), (123, .s 0 0 7 32), (0, .s 0 0 7 32), (1, vu ↑u), (4, vi 7), (12, vw ((u / 10000 : Nat) : Int)), (14, vw ((2 * (u % 10000 / 100) : Nat) : Int)), (20, vb false), (99, vb true)]) (E2 := [(132, vw ((2 * (u % 10000 / 100) : Nat) : Int)), (131, vo ((48 + (u % 10000 / 100) % 10 : Nat) : Int)), (130, vw (IntKind.u32.wrap (((2 * (u % 10000 / 100) : Nat) : Int) + 1))), (129, vw ((2 * (u % 10000 / 100) : Nat) : Int)), (128, vi 3), (127, vi 7), (126, .s 0 0 7 32), (125, vi 4), (124, vi 7), (123, .s 0 0 7 32), (0, .s 0 0 7 32), (1, vu ↑u), (4, vi 7), (12, vw ((u / 10000 : Nat) : Int)), (14, vw ((2 * (u % 10000 / 100) : Nat) : Int)), (20, vb false), (99, vb true)]) (E3 := [(134, .p 0 4), (133, vo ((48 + (u % 10000 / 100) / 10 : Nat) : Int)), (132, vw ((2 * (u % 10000 / 100) : Nat) : Int)), (131, vo ((48 + (u % 10000 / 100) % 10 : Nat) : Int)), (130, vw (IntKind.u32.wrap (((2 * (u % 10000 / 100) : Nat) : Int) + 1))), (129, vw ((2 * (u % 10000 / 100) : Nat) : Int)), (128, vi 3), (127, vi 7), (126, .s 0 0 7 32), (125, vi 4), (124, vi 7), (123, .s 0 0 7 32), (0, .s 0 0 7 32), (1, vu ↑u), (4, vi 7), (12, vw ((u / 10000 : Nat) : Int)), (14, vw ((2 * (u % 10000 / 100) : Nat) : Int)), (20, vb false), (99, vb true)]) (E4 := [(0, .s 0 0 7 32), (1, vu ↑u), (4, vi 7), (12, vw ((u / 10000 : Nat) : Int)), (20, vb false), (99, vb true)]) (E5 := [(135, .p 0 3), (134, .p 0 4), (133, vo ((48 + (u % 10000 / 100) / 10 : Nat) : Int)), (132, vw ((2 * (u % 10000 / 100) : Nat) : Int)), (131, vo ((48 + (u % 10000 / 100) % 10 : Nat) : Int)), (130, vw (IntKind.u32.wrap (((2 * (u % 10000 / 100) : Nat) : Int) + 1))), (129, vw ((2 * (u % 10000 / 100) : Nat) : Int)), (128, vi 3), (127, vi 7), (126, .s 0 0 7 32), (125, vi 4), (124, vi 7), (123, .s 0 0 7 32), (0, .s 0 0 7 32), (1, vu ↑u), (4, vi 7), (12, vw ((u / 10000 : Nat) : Int)), (14, vw ((2 * (u % 10000 / 100) : Nat) : Int)), (20, vb false), (99, vb true)]) (k := 0) (i := 4) (j := 3) (d8 := 131) (d10 := 133) (va := .int .u8 ((48 + (u % 10000 / 100) % 10 : Nat) : Int)) (vb := .int .u8 ((48 + (u % 10000 / 100) / 10 : Nat) : Int)) (by kernel_rfl) tabOk h20 M20 rfl (by kernel_rfl) (fun _ _ _ _ hd h => And.intro (hd.trans (And.left h)) (And.right h)) (by kernel_rfl) rfl rfl rfl (by decide) (fun a' h' W' => sm_lo (q := u % 10000 / 100) (by omega) rfl rfl (h'.2 130 _ rfl) (by kernel_rfl)) (by kernel_rfl) rfl rfl rfl (by decide) (fun a' h' W' => sm_hi (q := u % 10000 / 100) (by omega) rfl rfl (h'.2 132 _ rfl) (by kernel_rfl)) (by kernel_rfl) (by kernel_rfl) (by kernel_rfl) (by kernel_rfl) (by decide) rfl rfl sE (fun a21 W21 h21 d21 M21 G21 => ?_)
  replace d21 := d21.trans d20
  clear h20 d20
  replace M21 : Mw (bn [g]) [⟨g, 59, 32, (upm (upm (upm (upm m 6 (.int .u8 ((48 + (u % 10000 % 100) % 10 : Nat) : Int))) 5 (.int .u8 ((48 + (u % 10000 % 100) / 10 : Nat) : Int))) 4 (.int .u8 ((48 + (u % 10000 / 100) % 10 : Nat) : Int))) 3 (.int .u8 ((48 + (u % 10000 / 100) / 10 : Nat) : Int)))⟩] W21 := M21
  replace F := F.trans G21
  clear M20
  show Code.wp _ _ _ _ _
  refine wp_region ?_
  refine oP 167 [] [0, 1, 2] [(0, .s 0 0 7 32), (1, vu ↑u), (4, vi 3), (12, vw ((u / 10000 : Nat) : Int)), (20, vb false), (99, vb true)] h21 d21 (fun a22 h22 d22 => ?_)
  clear h21 d21
  show Code.wp _ _ _ _ _
  refine wp_seq ?_
  refine wp_seq (wp_region ?_)
  refine oP 167 [] [0, 1] [(0, .s 0 0 7 32), (1, vu ↑u), (4, vi 3), (12, vw ((u / 10000 : Nat) : Int)), (20, vb false), (99, vb true), (139, vb true)] h22 d22 (fun a23 h23 d23 => ?_)
  clear h22 d22
  show Code.wp _ _ _ _ _
  refine wp_cond_true (h23.2 139 _ rfl) ?_
  refine wp_seq (wp_region ?_)
  refine oP 167 [1, 2, 3] [0] [(0, .s 0 0 7 32), (1, vu ↑u), (4, vi 3), (12, vw ((u / 10000 : Nat) : Int)), (20, vb false), (99, vb true), (139, vb true), (140, vw ((u / 10000 : Nat) : Int))] h23 d23 (fun a24 h24 d24 => ?_)
  clear h23 d23
  refine oP 167 [2, 3] [1] [(0, .s 0 0 7 32), (1, vu ↑u), (4, vi 3), (12, vw ((u / 10000 : Nat) : Int)), (20, vb false), (99, vb true), (139, vb true), (140, vw ((u / 10000 : Nat) : Int)), (141, vw (Int.tmod ((u / 10000 : Nat) : Int) 100))] h24 d24 (fun a25 h25 d25 => ?_)
  clear h24 d24
  rw [show (Int.tmod ((u / 10000 : Nat) : Int) 100) = ((u / 10000 % 100 : Nat) : Int) from n_rem (u / 10000) 100] at h25
  refine oP 167 [3] [2] [(0, .s 0 0 7 32), (1, vu ↑u), (4, vi 3), (12, vw ((u / 10000 : Nat) : Int)), (20, vb false), (99, vb true), (139, vb true), (140, vw ((u / 10000 : Nat) : Int)), (141, vw ((u / 10000 % 100 : Nat) : Int)), (142, vw (IntKind.u32.wrap (((u / 10000 % 100 : Nat) : Int) * 2)))] h25 d25 (fun a26 h26 d26 => ?_)
  clear h25 d25
  rw [show (IntKind.u32.wrap (((u / 10000 % 100 : Nat) : Int) * 2)) = ((2 * (u / 10000 % 100) : Nat) : Int) from n_m2 (u / 10000 % 100) (by omega)] at h26
  refine oP 167 [] [3] [(0, .s 0 0 7 32), (1, vu ↑u), (4, vi 3), (12, vw ((u / 10000 : Nat) : Int)), (16, vw ((2 * (u / 10000 % 100) : Nat) : Int)), (20, vb false), (99, vb true), (139, vb true)] h26 d26 (fun a27 h27 d27 => ?_)
  clear h26 d26
  show Code.wp _ _ _ _ _
  refine wp_seq (wp_region ?_)
  refine oP 167 [1, 2] [0] [(0, .s 0 0 7 32), (1, vu ↑u), (4, vi 3), (12, vw ((u / 10000 : Nat) : Int)), (16, vw ((2 * (u / 10000 % 100) : Nat) : Int)), (20, vb false), (99, vb true), (139, vb true), (143, vw ((u / 10000 : Nat) : Int))] h27 d27 (fun a28 h28 d28 => ?_)
  clear h27 d27
  refine oP 167 [2] [1] [(0, .s 0 0 7 32), (1, vu ↑u), (4, vi 3), (12, vw ((u / 10000 : Nat) : Int)), (16, vw ((2 * (u / 10000 % 100) : Nat) : Int)), (20, vb false), (99, vb true), (139, vb true), (143, vw ((u / 10000 : Nat) : Int)), (144, vw (IntKind.u32.wrap (Int.tdiv ((u / 10000 : Nat) : Int) 100)))] h28 d28 (fun a29 h29 d29 => ?_)
  clear h28 d28
  rw [show (IntKind.u32.wrap (Int.tdiv ((u / 10000 : Nat) : Int) 100)) = ((u / 10000 / 100 : Nat) : Int) from n_q32 (u / 10000) 100 (by omega)] at h29
  refine oP 167 [] [2] [(0, .s 0 0 7 32), (1, vu ↑u), (4, vi 3), (12, vw ((u / 10000 / 100 : Nat) : Int)), (16, vw ((2 * (u / 10000 % 100) : Nat) : Int)), (20, vb false), (99, vb true), (139, vb true)] h29 d29 (fun a30 h30 d30 => ?_)
  clear h29 d29
  show Code.wp _ _ _ _ _
  refine wp_seq ?_
  refine reg_pair (N := 167) (T := TT) (L := [⟨g, 59, 32, (upm (upm (upm (upm m 6 (.int .u8 ((48 + (u % 10000 % 100) % 10 : Nat) : Int))) 5 (.int .u8 ((48 + (u % 10000 % 100) / 10 : Nat) : Int))) 4 (.int .u8 ((48 + (u % 10000 / 100) % 10 : Nat) : Int))) 3 (.int .u8 ((48 + (u % 10000 / 100) / 10 : Nat) : Int)))⟩]) (E := [(0, .s 0 0 7 32), (1, vu ↑u), (4, vi 3), (12, vw ((u / 10000 / 100 : Nat) : Int)), (16, vw ((2 * (u / 10000 % 100) : Nat) : Int)), (20, vb false), (99, vb true), (139, vb true)]) (E1 := [(152, vw (IntKind.u32.wrap (((2 * (u / 10000 % 100) : Nat) : Int) + 1))), (151, vw ((2 * (u / 10000 % 100) : Nat) : Int)), (150, vi 1), (149, vi 3), (148, .s 0 0 7 32), (147, vi 2), (146, vi 3), (145, .s 0 0 7 32), (0, .s 0 0 7 32), (1, vu ↑u), (4, vi 3), (12, vw ((u / 10000 / 100 : Nat) : Int)), (16, vw ((2 * (u / 10000 % 100) : Nat) : Int)), (20, vb false), (99, vb true), (139, vb true)]) (E2 := [(154, vw ((2 * (u / 10000 % 100) : Nat) : Int)), (153, vo ((48 + (u / 10000 % 100) % 10 : Nat) : Int)), (152, vw (IntKind.u32.wrap (((2 * (u / 10000 % 100) : Nat) : Int) + 1))), (151, vw ((2 * (u / 10000 % 100) : Nat) : Int)), (150, vi 1), (149, vi 3), (148, .s 0 0 7 32), (147, vi 2), (146, vi 3), (145, .s 0 0 7 32), (0, .s 0 0 7 32), (1, vu ↑u), (4, vi 3), (12, vw ((u / 10000 / 100 : Nat) : Int)), (16, vw ((2 * (u / 10000 % 100) : Nat) : Int)), (20, vb false), (99, vb true), (139, vb true)]) (E3 := [(156, .p 0 2), (155, vo ((48 + (u / 10000 % 100) / 10 : Nat) : Int)), (154, vw ((2 * (u / 10000 % 100) : Nat) : Int)), (153, vo ((48 + (u / 10000 % 100) % 10 : Nat) : Int)), (152, vw (IntKind.u32.wrap (((2 * (u / 10000 % 100) : Nat) : Int) + 1))), (151, vw ((2 * (u / 10000 % 100) : Nat) : Int)), (150, vi 1), (149, vi 3), (148, .s 0 0 7 32), (147, vi 2), (146, vi 3), (145, .s 0 0 7 32), (0, .s 0 0 7 32), (1, vu ↑u), (4, vi 3), (12, vw ((u / 10000 / 100 : Nat) : Int)), (16, vw ((2 * (u / 10000 % 100) : Nat) : Int)), (20, vb false), (99, vb true), (139, vb true)]) (E4 := [(0, .s 0 0 7 32), (1, vu ↑u), (4, vi 3), (12, vw ((u / 10000 / 100 : Nat) : Int)), (20, vb false), (99, vb true), (139, vb true)]) (E5 := [(157, .p 0 1), (156, .p 0 2), (155, vo ((48 + (u / 10000 % 100) / 10 : Nat) : Int)), (154, vw ((2 * (u / 10000 % 100) : Nat) : Int)), (153, vo ((48 + (u / 10000 % 100) % 10 : Nat) : Int)), (152, vw (IntKind.u32.wrap (((2 * (u / 10000 % 100) : Nat) : Int) + 1))), (151, vw ((2 * (u / 10000 % 100) : Nat) : Int)), (150, vi 1), (149, vi 3), (148, .s 0 0 7 32), (147, vi 2), (146, vi 3), (145, .s 0 0 7 32), (0, .s 0 0 7 32), (1, vu ↑u), (4, vi 3), (12, vw ((u / 10000 / 100 : Nat) : Int)), (16, vw ((2 * (u / 10000 % 100) : Nat) : Int)), (20, vb false), (99, vb true), (139, vb true)]) (k := 0) (i := 2) (j := 1) (d8 := 153) (d10 := 155) (va := .int .u8 ((48 + (u / 10000 % 100) % 10 : Nat) : Int)) (vb := .int .u8 ((48 + (u / 10000 % 100) / 10 : Nat) : Int)) (by kernel_rfl) tabOk h30 M21 rfl (by kernel_rfl) (fun _ _ _ _ hd h => And.intro (hd.trans (And.left h)) (And.right h)) (by kernel_rfl) rfl rfl rfl (by decide) (fun a' h' W' => sm_lo (q := u / 10000 % 100) (by omega) rfl rfl (h'.2 152 _ rfl) (by kernel_rfl)) (by kernel_rfl) rfl rfl rfl (by decide) (fun a' h' W' => sm_hi (q := u / 10000 % 100) (by omega) rfl rfl (h'.2 154 _ rfl) (by kernel_rfl)) (by kernel_rfl) (by kernel_rfl) (by kernel_rfl) (by kernel_rfl) (by decide) rfl rfl sE (fun a31 W31 h31 d31 M31 G31 => ?_)
  replace d31 := d31.trans d30
  clear h30 d30
  replace M31 : Mw (bn [g]) [⟨g, 59, 32, (upm (upm (upm (upm (upm (upm m 6 (.int .u8 ((48 + (u % 10000 % 100) % 10 : Nat) : Int))) 5 (.int .u8 ((48 + (u % 10000 % 100) / 10 : Nat) : Int))) 4 (.int .u8 ((48 + (u % 10000 / 100) % 10 : Nat) : Int))) 3 (.int .u8 ((48 + (u % 10000 / 100) / 10 : Nat) : Int))) 2 (.int .u8 ((48 + (u / 10000 % 100) % 10 : Nat) : Int))) 1 (.int .u8 ((48 + (u / 10000 % 100) / 10 : Nat) : Int)))⟩] W31 := M31
  replace F := F.trans G31
  clear M21
  show Code.wp _ _ _ _ _
  refine wp_region ?_
  refine oP 167 [] [0, 1, 2] [(0, .s 0 0 7 32), (1, vu ↑u), (4, vi 1), (12, vw ((u / 10000 / 100 : Nat) : Int)), (20, vb false), (99, vb true), (139, vb true)] h31 d31 (fun a32 h32 d32 => ?_)
  clear h31 d31
  show Code.wp _ _ _ _ _
  refine wp_seq (wp_region ?_)
  refine oP 167 [] [0, 1] [(0, .s 0 0 7 32), (1, vu ↑u), (4, vi 1), (12, vw ((u / 10000 / 100 : Nat) : Int)), (20, vb false), (99, vb true), (139, vb true), (161, vb true)] h32 d32 (fun a33 h33 d33 => ?_)
  clear h32 d32
  show Code.wp _ _ _ _ _
  refine wp_cond_true (h33.2 161 _ rfl) ?_
  refine wp_region ?_
  refine oP 167 [4, 5] [0, 1, 2, 3] [(0, .s 0 0 7 32), (1, vu ↑u), (4, vi 1), (12, vw ((u / 10000 / 100 : Nat) : Int)), (20, vb false), (99, vb true), (139, vb true), (161, vb true), (162, .s 0 0 7 32), (163, vw ((u / 10000 / 100 : Nat) : Int)), (164, vw (IntKind.u32.wrap (48 + ((u / 10000 / 100 : Nat) : Int)))), (165, vo (IntKind.u8.wrap ((IntKind.u32.wrap (48 + ((u / 10000 / 100 : Nat) : Int))))))] h33 d33 (fun a34 h34 d34 => ?_)
  clear h33 d33
  rw [show (IntKind.u8.wrap ((IntKind.u32.wrap (48 + ((u / 10000 / 100 : Nat) : Int))))) = ((48 + (u / 10000 / 100) : Nat) : Int) from n_c8 (u / 10000 / 100) (by omega)] at h34
  refine oP 167 [5] [4] [(0, .s 0 0 7 32), (1, vu ↑u), (4, vi 1), (12, vw ((u / 10000 / 100 : Nat) : Int)), (20, vb false), (99, vb true), (139, vb true), (161, vb true), (162, .s 0 0 7 32), (163, vw ((u / 10000 / 100 : Nat) : Int)), (164, vw (IntKind.u32.wrap (48 + ((u / 10000 / 100 : Nat) : Int)))), (165, vo ((48 + (u / 10000 / 100) : Nat) : Int)), (166, .p 0 0)] h34 d34 (fun a35 h35 d35 => ?_)
  clear h34 d34
  refine storeM_ops (N := 167) (T := TT) (i := 5) (k := 0) (ix := 0) (u := .int .u8 ((48 + (u / 10000 / 100) : Nat) : Int)) (l := []) tabOk h35 M31 (by kernel_rfl) rfl (fun W36 M36 G36 => ?_)
  replace M36 : Mw (bn [g]) [⟨g, 59, 32, (upm (upm (upm (upm (upm (upm (upm m 6 (.int .u8 ((48 + (u % 10000 % 100) % 10 : Nat) : Int))) 5 (.int .u8 ((48 + (u % 10000 % 100) / 10 : Nat) : Int))) 4 (.int .u8 ((48 + (u % 10000 / 100) % 10 : Nat) : Int))) 3 (.int .u8 ((48 + (u % 10000 / 100) / 10 : Nat) : Int))) 2 (.int .u8 ((48 + (u / 10000 % 100) % 10 : Nat) : Int))) 1 (.int .u8 ((48 + (u / 10000 % 100) / 10 : Nat) : Int))) 0 (.int .u8 ((48 + (u / 10000 / 100) : Nat) : Int)))⟩] W36 := M36
  have h36 := h35
  have d36 := d35
  clear h35 d35 M31
  replace F := F.trans G36
  refine ⟨d36, _, results_none rfl _ _ _, rfl, ?_, F⟩
  refine Bl.In.eq (M36.2.get (k := 0) rfl) (fun i hi => ?_)
  by_cases q0 : i = 0
  · subst q0
    show Value.int .u8 ((48 + (u / 10000 / 100) : Nat) : Int) = Value.int .u8 ((48 + u / 1000000 % 10 : Nat) : Int)
    rw [show 48 + (u / 10000 / 100) = 48 + u / 1000000 % 10 from by omega]
  by_cases q1 : i = 1
  · subst q1
    show Value.int .u8 ((48 + (u / 10000 % 100) / 10 : Nat) : Int) = Value.int .u8 ((48 + u / 100000 % 10 : Nat) : Int)
    rw [show 48 + (u / 10000 % 100) / 10 = 48 + u / 100000 % 10 from by omega]
  by_cases q2 : i = 2
  · subst q2
    show Value.int .u8 ((48 + (u / 10000 % 100) % 10 : Nat) : Int) = Value.int .u8 ((48 + u / 10000 % 10 : Nat) : Int)
    rw [show 48 + (u / 10000 % 100) % 10 = 48 + u / 10000 % 10 from by omega]
  by_cases q3 : i = 3
  · subst q3
    show Value.int .u8 ((48 + (u % 10000 / 100) / 10 : Nat) : Int) = Value.int .u8 ((48 + u / 1000 % 10 : Nat) : Int)
    rw [show 48 + (u % 10000 / 100) / 10 = 48 + u / 1000 % 10 from by omega]
  by_cases q4 : i = 4
  · subst q4
    show Value.int .u8 ((48 + (u % 10000 / 100) % 10 : Nat) : Int) = Value.int .u8 ((48 + u / 100 % 10 : Nat) : Int)
    rw [show 48 + (u % 10000 / 100) % 10 = 48 + u / 100 % 10 from by omega]
  by_cases q5 : i = 5
  · subst q5
    show Value.int .u8 ((48 + (u % 10000 % 100) / 10 : Nat) : Int) = Value.int .u8 ((48 + u / 10 % 10 : Nat) : Int)
    rw [show 48 + (u % 10000 % 100) / 10 = 48 + u / 10 % 10 from by omega]
  by_cases q6 : i = 6
  · subst q6
    show Value.int .u8 ((48 + (u % 10000 % 100) % 10 : Nat) : Int) = Value.int .u8 ((48 + u / 1 % 10 : Nat) : Int)
    rw [show 48 + (u % 10000 % 100) % 10 = 48 + u / 1 % 10 from by omega]
  unfold dgM
  rw [if_neg (by omega)]
  show (upm (upm (upm (upm (upm (upm (upm m 6 (.int .u8 ((48 + (u % 10000 % 100) % 10 : Nat) : Int))) 5 (.int .u8 ((48 + (u % 10000 % 100) / 10 : Nat) : Int))) 4 (.int .u8 ((48 + (u % 10000 / 100) % 10 : Nat) : Int))) 3 (.int .u8 ((48 + (u % 10000 / 100) / 10 : Nat) : Int))) 2 (.int .u8 ((48 + (u / 10000 % 100) % 10 : Nat) : Int))) 1 (.int .u8 ((48 + (u / 10000 % 100) / 10 : Nat) : Int))) 0 (.int .u8 ((48 + (u / 10000 / 100) : Nat) : Int))) i = _
  unfold upm
  repeat rw [if_neg (by omega)]
end Go.Proofs.YtmgnffklmdhooaaDoor.PAll
namespace Go.Proofs.YtmgnffklmdhooaaDoor.PAll
open Go.RowKit Go.Proofs.YtmgnffklmdhooaaDoorW.PrintWords Go.Proofs.YtmgnffklmdhooaaDoorW.PrintLast Go.Proofs.YtmgnffklmdhooaaDoorW.PrintMore
set_option linter.unusedVariables false
set_option linter.unusedSimpArgs false
set_option maxHeartbeats 8000000 in
set_option maxRecDepth 100000 in
theorem fmt8_walk (g u : Nat) (m : Nat → Value) (hu : u < 100000000) (w : World) (hg : (⟨g, 59, 32, m⟩ : Bl).In w) :
    Calls Tryd.prog 55 #[.slice (some ⟨g, 0, none⟩) 8 32, .int .u64 (u : Int)] w fun e' w' => e' = .returned (.tuple #[]) ∧ (⟨g, 59, 32, dgM m 8 u⟩ : Bl).In w' ∧ Fr [g] w w' := by
  refine calls_of_wp Tryd.func55 rfl ?_
  have h0 := has_two (β := bn [g]) (.s 0 0 8 32) (vu (u : Int)) 165
  have d0 : (⟨#[.slice (some ⟨g, 0, none⟩) 8 32, .int .u64 (u : Int)] ++ Array.replicate 165 undef, []⟩ : Act).defers = [] := rfl
  have M0 : Mw (bn [g]) [⟨g, 59, 32, m⟩] w := ⟨bg_bn _, hg, by simp, trivial⟩
  have F := Fr.refl [g] w
  refine wp_seq (wp_region ?_)
  refine oP 167 [] [0, 1, 2] [(0, .s 0 0 8 32), (1, vu ↑u), (4, vi 8)] h0 d0 (fun a1 h1 d1 => ?_)
  clear h0 d0
  show Code.wp _ _ _ _ _
  refine wp_seq ?_
  refine wp_block ?_
  refine wp_loop_rounds 2 ?_
  rw [rounds_succ]
  refine wp_seq ?_
  refine wp_seq (wp_region ?_)
  refine oP 167 [] [0, 1] [(0, .s 0 0 8 32), (1, vu ↑u), (4, vi 8), (20, vb true)] h1 d1 (fun a2 h2 d2 => ?_)
  clear h1 d1
  show Code.wp _ _ _ _ _
  refine wp_cond_true (h2.2 20 _ rfl) ?_
  refine wp_skip ?_
  show Code.wp _ _ _ _ _
  refine wp_block ?_
  refine wp_seq (wp_region ?_)
  refine oP 167 [1, 2, 3] [0] [(0, .s 0 0 8 32), (1, vu ↑u), (4, vi 8), (20, vb true), (21, vu ↑u)] h2 d2 (fun a3 h3 d3 => ?_)
  clear h2 d2
  refine oP 167 [2, 3] [1] [(0, .s 0 0 8 32), (1, vu ↑u), (4, vi 8), (20, vb true), (21, vu ↑u), (22, vu (Int.tmod ((u : Nat) : Int) 100000000))] h3 d3 (fun a4 h4 d4 => ?_)
  clear h3 d3
  rw [show (Int.tmod ((u : Nat) : Int) 100000000) = ((u % 100000000 : Nat) : Int) from n_rem (u) 100000000] at h4
  refine oP 167 [3] [2] [(0, .s 0 0 8 32), (1, vu ↑u), (4, vi 8), (20, vb true), (21, vu ↑u), (22, vu ((u % 100000000 : Nat) : Int)), (23, vw (IntKind.u32.wrap (((u % 100000000 : Nat) : Int))))] h4 d4 (fun a5 h5 d5 => ?_)
  clear h4 d4
  rw [show (IntKind.u32.wrap (((u % 100000000 : Nat) : Int))) = ((u % 100000000 : Nat) : Int) from n_c32 (u % 100000000) (by omega)] at h5
  refine oP 167 [] [3] [(0, .s 0 0 8 32), (1, vu ↑u), (4, vi 8), (5, vw ((u % 100000000 : Nat) : Int)), (20, vb true)] h5 d5 (fun a6 h6 d6 => ?_)
  clear h5 d5
  show Code.wp _ _ _ _ _
  refine wp_seq (wp_region ?_)
  refine oP 167 [1, 2] [0] [(0, .s 0 0 8 32), (1, vu ↑u), (4, vi 8), (5, vw ((u % 100000000 : Nat) : Int)), (20, vb true), (24, vu ↑u)] h6 d6 (fun a7 h7 d7 => ?_)
  clear h6 d6
  refine oP 167 [2] [1] [(0, .s 0 0 8 32), (1, vu ↑u), (4, vi 8), (5, vw ((u % 100000000 : Nat) : Int)), (20, vb true), (24, vu ↑u), (25, vu (IntKind.u64.wrap (Int.tdiv ((u : Nat) : Int) 100000000)))] h7 d7 (fun a8 h8 d8 => ?_)
  clear h7 d7
  rw [show (IntKind.u64.wrap (Int.tdiv ((u : Nat) : Int) 100000000)) = ((u / 100000000 : Nat) : Int) from n_q64 (u) 100000000 (by omega)] at h8
  refine oP 167 [] [2] [(0, .s 0 0 8 32), (1, vu ((u / 100000000 : Nat) : Int)), (4, vi 8), (5, vw ((u % 100000000 : Nat) : Int)), (20, vb true)] h8 d8 (fun a9 h9 d9 => ?_)
  clear h8 d8
  show Code.wp _ _ _ _ _
  refine wp_seq (wp_region ?_)
  refine oP 167 [1, 2, 3, 4, 5] [0] [(0, .s 0 0 8 32), (1, vu ((u / 100000000 : Nat) : Int)), (4, vi 8), (5, vw ((u % 100000000 : Nat) : Int)), (20, vb true), (26, vw ((u % 100000000 : Nat) : Int))] h9 d9 (fun a10 h10 d10 => ?_)
  clear h9 d9
  refine oP 167 [2, 3, 4, 5] [1] [(0, .s 0 0 8 32), (1, vu ((u / 100000000 : Nat) : Int)), (4, vi 8), (5, vw ((u % 100000000 : Nat) : Int)), (20, vb true), (26, vw ((u % 100000000 : Nat) : Int)), (27, vw (IntKind.u32.wrap (Int.tdiv ((u % 100000000 : Nat) : Int) 10000)))] h10 d10 (fun a11 h11 d11 => ?_)
  clear h10 d10
  rw [show (IntKind.u32.wrap (Int.tdiv ((u % 100000000 : Nat) : Int) 10000)) = ((u % 100000000 / 10000 : Nat) : Int) from n_q32 (u % 100000000) 10000 (by omega)] at h11
  refine oP 167 [3, 4, 5] [2] [(0, .s 0 0 8 32), (1, vu ((u / 100000000 : Nat) : Int)), (4, vi 8), (5, vw ((u % 100000000 : Nat) : Int)), (20, vb true), (26, vw ((u % 100000000 : Nat) : Int)), (27, vw ((u % 100000000 / 10000 : Nat) : Int)), (28, vw ((u % 100000000 : Nat) : Int))] h11 d11 (fun a12 h12 d12 => ?_)
  clear h11 d11
  refine oP 167 [4, 5] [3] [(0, .s 0 0 8 32), (1, vu ((u / 100000000 : Nat) : Int)), (4, vi 8), (5, vw ((u % 100000000 : Nat) : Int)), (20, vb true), (26, vw ((u % 100000000 : Nat) : Int)), (27, vw ((u % 100000000 / 10000 : Nat) : Int)), (28, vw ((u % 100000000 : Nat) : Int)), (29, vw (Int.tmod ((u % 100000000 : Nat) : Int) 10000))] h12 d12 (fun a13 h13 d13 => ?_)
  clear h12 d12
  rw [show (Int.tmod ((u % 100000000 : Nat) : Int) 10000) = ((u % 100000000 % 10000 : Nat) : Int) from n_rem (u % 100000000) 10000] at h13
  refine oP 167 [] [4, 5] [(0, .s 0 0 8 32), (1, vu ((u / 100000000 : Nat) : Int)), (4, vi 8), (6, vw ((u % 100000000 / 10000 : Nat) : Int)), (7, vw ((u % 100000000 % 10000 : Nat) : Int)), (20, vb true)] h13 d13 (fun a14 h14 d14 => ?_)
  clear h13 d13
  show Code.wp _ _ _ _ _
  refine wp_seq (wp_region ?_)
  refine oP 167 [1, 2, 3, 4, 5, 6, 7] [0] [(0, .s 0 0 8 32), (1, vu ((u / 100000000 : Nat) : Int)), (4, vi 8), (6, vw ((u % 100000000 / 10000 : Nat) : Int)), (7, vw ((u % 100000000 % 10000 : Nat) : Int)), (20, vb true), (30, vw ((u % 100000000 % 10000 : Nat) : Int))] h14 d14 (fun a15 h15 d15 => ?_)
  clear h14 d14
  refine oP 167 [2, 3, 4, 5, 6, 7] [1] [(0, .s 0 0 8 32), (1, vu ((u / 100000000 : Nat) : Int)), (4, vi 8), (6, vw ((u % 100000000 / 10000 : Nat) : Int)), (7, vw ((u % 100000000 % 10000 : Nat) : Int)), (20, vb true), (30, vw ((u % 100000000 % 10000 : Nat) : Int)), (31, vw (IntKind.u32.wrap (Int.tdiv ((u % 100000000 % 10000 : Nat) : Int) 100)))] h15 d15 (fun a16 h16 d16 => ?_)
  clear h15 d15
  rw [show (IntKind.u32.wrap (Int.tdiv ((u % 100000000 % 10000 : Nat) : Int) 100)) = ((u % 100000000 % 10000 / 100 : Nat) : Int) from n_q32 (u % 100000000 % 10000) 100 (by omega)] at h16
  refine oP 167 [3, 4, 5, 6, 7] [2] [(0, .s 0 0 8 32), (1, vu ((u / 100000000 : Nat) : Int)), (4, vi 8), (6, vw ((u % 100000000 / 10000 : Nat) : Int)), (7, vw ((u % 100000000 % 10000 : Nat) : Int)), (20, vb true), (30, vw ((u % 100000000 % 10000 : Nat) : Int)), (31, vw ((u % 100000000 % 10000 / 100 : Nat) : Int)), (32, vw (IntKind.u32.wrap (((u % 100000000 % 10000 / 100 : Nat) : Int) * 2)))] h16 d16 (fun a17 h17 d17 => ?_)
  clear h16 d16
  rw [show (IntKind.u32.wrap (((u % 100000000 % 10000 / 100 : Nat) : Int) * 2)) = ((2 * (u % 100000000 % 10000 / 100) : Nat) : Int) from n_m2 (u % 100000000 % 10000 / 100) (by omega)] at h17
  refine oP 167 [4, 5, 6, 7] [3] [(0, .s 0 0 8 32), (1, vu ((u / 100000000 : Nat) : Int)), (4, vi 8), (6, vw ((u % 100000000 / 10000 : Nat) : Int)), (7, vw ((u % 100000000 % 10000 : Nat) : Int)), (20, vb true), (30, vw ((u % 100000000 % 10000 : Nat) : Int)), (31, vw ((u % 100000000 % 10000 / 100 : Nat) : Int)), (32, vw ((2 * (u % 100000000 % 10000 / 100) : Nat) : Int)), (33, vw ((u % 100000000 % 10000 : Nat) : Int))] h17 d17 (fun a18 h18 d18 => ?_)
  clear h17 d17
  refine oP 167 [5, 6, 7] [4] [(0, .s 0 0 8 32), (1, vu ((u / 100000000 : Nat) : Int)), (4, vi 8), (6, vw ((u % 100000000 / 10000 : Nat) : Int)), (7, vw ((u % 100000000 % 10000 : Nat) : Int)), (20, vb true), (30, vw ((u % 100000000 % 10000 : Nat) : Int)), (31, vw ((u % 100000000 % 10000 / 100 : Nat) : Int)), (32, vw ((2 * (u % 100000000 % 10000 / 100) : Nat) : Int)), (33, vw ((u % 100000000 % 10000 : Nat) : Int)), (34, vw (Int.tmod ((u % 100000000 % 10000 : Nat) : Int) 100))] h18 d18 (fun a19 h19 d19 => ?_)
  clear h18 d18
  rw [show (Int.tmod ((u % 100000000 % 10000 : Nat) : Int) 100) = ((u % 100000000 % 10000 % 100 : Nat) : Int) from n_rem (u % 100000000 % 10000) 100] at h19
  refine oP 167 [6, 7] [5] [(0, .s 0 0 8 32), (1, vu ((u / 100000000 : Nat) : Int)), (4, vi 8), (6, vw ((u % 100000000 / 10000 : Nat) : Int)), (7, vw ((u % 100000000 % 10000 : Nat) : Int)), (20, vb true), (30, vw ((u % 100000000 % 10000 : Nat) : Int)), (31, vw ((u % 100000000 % 10000 / 100 : Nat) : Int)), (32, vw ((2 * (u % 100000000 % 10000 / 100) : Nat) : Int)), (33, vw ((u % 100000000 % 10000 : Nat) : Int)), (34, vw ((u % 100000000 % 10000 % 100 : Nat) : Int)), (35, vw (IntKind.u32.wrap (((u % 100000000 % 10000 % 100 : Nat) : Int) * 2)))] h19 d19 (fun a20 h20 d20 => ?_)
  clear h19 d19
  rw [show (IntKind.u32.wrap (((u % 100000000 % 10000 % 100 : Nat) : Int) * 2)) = ((2 * (u % 100000000 % 10000 % 100) : Nat) : Int) from n_m2 (u % 100000000 % 10000 % 100) (by omega)] at h20
  refine oP 167 [] [6, 7] [(0, .s 0 0 8 32), (1, vu ((u / 100000000 : Nat) : Int)), (4, vi 8), (6, vw ((u % 100000000 / 10000 : Nat) : Int)), (8, vw ((2 * (u % 100000000 % 10000 / 100) : Nat) : Int)), (9, vw ((2 * (u % 100000000 % 10000 % 100) : Nat) : Int)), (20, vb true)] h20 d20 (fun a21 h21 d21 => ?_)
  clear h20 d20
  show Code.wp _ _ _ _ _
  refine wp_seq (wp_region ?_)
  refine oP 167 [1, 2, 3, 4, 5, 6, 7] [0] [(0, .s 0 0 8 32), (1, vu ((u / 100000000 : Nat) : Int)), (4, vi 8), (6, vw ((u % 100000000 / 10000 : Nat) : Int)), (8, vw ((2 * (u % 100000000 % 10000 / 100) : Nat) : Int)), (9, vw ((2 * (u % 100000000 % 10000 % 100) : Nat) : Int)), (20, vb true), (36, vw ((u % 100000000 / 10000 : Nat) : Int))] h21 d21 (fun a22 h22 d22 => ?_)
  clear h21 d21
  refine oP 167 [2, 3, 4, 5, 6, 7] [1] [(0, .s 0 0 8 32), (1, vu ((u / 100000000 : Nat) : Int)), (4, vi 8), (6, vw ((u % 100000000 / 10000 : Nat) : Int)), (8, vw ((2 * (u % 100000000 % 10000 / 100) : Nat) : Int)), (9, vw ((2 * (u % 100000000 % 10000 % 100) : Nat) : Int)), (20, vb true), (36, vw ((u % 100000000 / 10000 : Nat) : Int)), (37, vw (IntKind.u32.wrap (Int.tdiv ((u % 100000000 / 10000 : Nat) : Int) 100)))] h22 d22 (fun a23 h23 d23 => ?_)
  clear h22 d22
  rw [show (IntKind.u32.wrap (Int.tdiv ((u % 100000000 / 10000 : Nat) : Int) 100)) = ((u % 100000000 / 10000 / 100 : Nat) : Int) from n_q32 (u % 100000000 / 10000) 100 (by omega)] at h23
  refine oP 167 [3, 4, 5, 6, 7] [2] [(0, .s 0 0 8 32), (1, vu ((u / 100000000 : Nat) : Int)), (4, vi 8), (6, vw ((u % 100000000 / 10000 : Nat) : Int)), (8, vw ((2 * (u % 100000000 % 10000 / 100) : Nat) : Int)), (9, vw ((2 * (u % 100000000 % 10000 % 100) : Nat) : Int)), (20, vb true), (36, vw ((u % 100000000 / 10000 : Nat) : Int)), (37, vw ((u % 100000000 / 10000 / 100 : Nat) : Int)), (38, vw (IntKind.u32.wrap (((u % 100000000 / 10000 / 100 : Nat) : Int) * 2)))] h23 d23 (fun a24 h24 d24 => ?_)
  clear h23 d23
  rw [show (IntKind.u32.wrap (((u % 100000000 / 10000 / 100 : Nat) : Int) * 2)) = ((2 * (u % 100000000 / 10000 / 100) : Nat) : Int) from n_m2 (u % 100000000 / 10000 / 100) (by omega)] at h24
  refine oP 167 [4, 5, 6, 7] [3] [(0, .s 0 0 8 32), (1, vu ((u / 100000000 : Nat) : Int)), (4, vi 8), (6, vw ((u % 100000000 / 10000 : Nat) : Int)), (8, vw ((2 * (u % 100000000 % 10000 / 100) : Nat) : Int)), (9, vw ((2 * (u % 100000000 % 10000 % 100) : Nat) : Int)), (20, vb true), (36, vw ((u % 100000000 / 10000 : Nat) : Int)), (37, vw ((u % 100000000 / 10000 / 100 : Nat) : Int)), (38, vw ((2 * (u % 100000000 / 10000 / 100) : Nat) : Int)), (39, vw ((u % 100000000 / 10000 : Nat) : Int))] h24 d24 (fun a25 h25 d25 => ?_)
  clear h24 d24
  refine oP 167 [5, 6, 7] [4] [(0, .s 0 0 8 32), (1, vu ((u / 100000000 : Nat) : Int)), (4, vi 8), (6, vw ((u % 100000000 / 10000 : Nat) : Int)), (8, vw ((2 * (u % 100000000 % 10000 / 100) : Nat) : Int)), (9, vw ((2 * (u % 100000000 % 10000 % 100) : Nat) : Int)), (20, vb true), (36, vw ((u % 100000000 / 10000 : Nat) : Int)), (37, vw ((u % 100000000 / 10000 / 100 : Nat) : Int)), (38, vw ((2 * (u % 100000000 / 10000 / 100) : Nat) : Int)), (39, vw ((u % 100000000 / 10000 : Nat) : Int)), (40, vw (Int.tmod ((u % 100000000 / 10000 : Nat) : Int) 100))] h25 d25 (fun a26 h26 d26 => ?_)
  clear h25 d25
  rw [show (Int.tmod ((u % 100000000 / 10000 : Nat) : Int) 100) = ((u % 100000000 / 10000 % 100 : Nat) : Int) from n_rem (u % 100000000 / 10000) 100] at h26
  refine oP 167 [6, 7] [5] [(0, .s 0 0 8 32), (1, vu ((u / 100000000 : Nat) : Int)), (4, vi 8), (6, vw ((u % 100000000 / 10000 : Nat) : Int)), (8, vw ((2 * (u % 100000000 % 10000 / 100) : Nat) : Int)), (9, vw ((2 * (u % 100000000 % 10000 % 100) : Nat) : Int)), (20, vb true), (36, vw ((u % 100000000 / 10000 : Nat) : Int)), (37, vw ((u % 100000000 / 10000 / 100 : Nat) : Int)), (38, vw ((2 * (u % 100000000 / 10000 / 100) : Nat) : Int)), (39, vw ((u % 100000000 / 10000 : Nat) : Int)), (40, vw ((u % 100000000 / 10000 % 100 : Nat) : Int)), (41, vw (IntKind.u32.wrap (((u % 100000000 / 10000 % 100 : Nat) : Int) * 2)))] h26 d26 (fun a27 h27 d27 => ?_)
  clear h26 d26
  rw [show (IntKind.u32.wrap (((u % 100000000 / 10000 % 100 : Nat) : Int) * 2)) = ((2 * (u % 100000000 / 10000 % 100) : Nat) : Int) from n_m2 (u % 100000000 / 10000 % 100) (by omega)] at h27
  refine oP 167 [] [6, 7] [(0, .s 0 0 8 32), (1, vu ((u / 100000000 : Nat) : Int)), (4, vi 8), (8, vw ((2 * (u % 100000000 % 10000 / 100) : Nat) : Int)), (9, vw ((2 * (u % 100000000 % 10000 % 100) : Nat) : Int)), (10, vw ((2 * (u % 100000000 / 10000 / 100) : Nat) : Int)), (11, vw ((2 * (u % 100000000 / 10000 % 100) : Nat) : Int)), (20, vb true)] h27 d27 (fun a28 h28 d28 => ?_)
  clear h27 d27
  show Code.wp _ _ _ _ _
  refine wp_seq ?_
  refine reg_pair (N := 167) (T := TT) (L := [⟨g, 59, 32, m⟩]) (E := [(0, .s 0 0 8 32), (1, vu ((u / 100000000 : Nat) : Int)), (4, vi 8), (8, vw ((2 * (u % 100000000 % 10000 / 100) : Nat) : Int)), (9, vw ((2 * (u % 100000000 % 10000 % 100) : Nat) : Int)), (10, vw ((2 * (u % 100000000 / 10000 / 100) : Nat) : Int)), (11, vw ((2 * (u % 100000000 / 10000 % 100) : Nat) : Int)), (20, vb true)]) (E1 := [(49, vw (IntKind.u32.wrap (((2 * (u % 100000000 % 10000 % 100) : Nat) : Int) + 1))), (48, vw ((2 * (u % 100000000 % 10000 % 100) : Nat) : Int)), (47, vi 6), (46, vi 8), (45, .s 0 0 8 32), (44, vi 7), (43, vi 8), (42, .s 0 0 8 32), (0, .s 0 0 8 32), (1, vu ((u / 100000000 : Nat) : Int)), (4, vi 8), (8, vw ((2 * (u % 100000000 % 10000 / 100) : Nat) : Int)), (9, vw ((2 * (u % 100000000 % 10000 % 100) : Nat) : Int)), (10, vw ((2 * (u % 100000000 / 10000 / 100) : Nat) : Int)), (11, vw ((2 * (u % 100000000 / 10000 % 100) : Nat) : Int)), (20, vb true)]) (E2 := [(51, vw ((2 * (u % 100000000 % 10000 % 100) : Nat) : Int)), (50, vo ((48 + (u % 100000000 % 10000 % 100) % 10 : Nat) : Int)), (49, vw (IntKind.u32.wrap (((2 * (u % 100000000 % 10000 % 100) : Nat) : Int) + 1))), (48, vw ((2 * (u % 100000000 % 10000 % 100) : Nat) : Int)), (47, vi 6), (46, vi 8), (45, .s 0 0 8 32), (44, vi 7), (43, vi 8), (42, .s 0 0 8 32), (0, .s 0 0 8 32), (1, vu ((u / 100000000 : Nat) : Int)), (4, vi 8), (8, vw ((2 * (u % 100000000 % 10000 / 100) : Nat) : Int)), (9, vw ((2 * (u % 100000000 % 10000 % 100) : Nat) : Int)), (10, vw ((2 * (u % 100000000 / 10000 / 100) : Nat) : Int)), (11, vw ((2 * (u % 100000000 / 10000 % 100) : Nat) : Int)), (20, vb true)]) (E3 := [(53, .p 0 7), (52, vo ((48 + (u % 100000000 % 10000 % 100) / 10 : Nat) : Int)), (51, vw ((2 * (u % 100000000 % 10000 % 100) : Nat) : Int)), (50, vo ((48 + (u % 100000000 % 10000 % 100) % 10 : Nat) : Int)), (49, vw (IntKind.u32.wrap (((2 * (u % 100000000 % 10000 % 100) : Nat) : Int) + 1))), (48, vw ((2 * (u % 100000000 % 10000 % 100) : Nat) : Int)), (47, vi 6), (46, vi 8), (45, .s 0 0 8 32), (44, vi 7), (43, vi 8), (42, .s 0 0 8 32), (0, .s 0 0 8 32), (1, vu ((u / 100000000 : Nat) : Int)), (4, vi 8), (8, vw ((2 * (u % 100000000 % 10000 / 100) : Nat) : Int)), (9, vw ((2 * (u % 100000000 % 10000 % 100) : Nat) : Int)), (10, vw ((2 * (u % 100000000 / 10000 / 100) : Nat) : Int)), (11, vw ((2 * (u % 100000000 / 10000 % 100) : Nat) : Int)), (20, vb true)]) (E4 := [(0, .s 0 0 8 32), (1, vu ((u / 100000000 : Nat) : Int)), (4, vi 8), (8, vw ((2 * (u % 100000000 % 10000 / 100) : Nat) : Int)), (10, vw ((2 * (u % 100000000 / 10000 / 100) : Nat) : Int)), (11, vw ((2 * (u % 100000000 / 10000 % 100) : Nat) : Int)), (20, vb true)]) (E5 := [(54, .p 0 6), (53, .p 0 7), (52, vo ((48 + (u % 100000000 % 10000 % 100) / 10 : Nat) : Int)), (51, vw ((2 * (u % 100000000 % 10000 % 100) : Nat) : Int)), (50, vo ((48 + (u % 100000000 % 10000 % 100) % 10 : Nat) : Int)), (49, vw (IntKind.u32.wrap (((2 * (u % 100000000 % 10000 % 100) : Nat) : Int) + 1))), (48, vw ((2 * (u % 100000000 % 10000 % 100) : Nat) : Int)), (47, vi 6), (46, vi 8), (45, .s 0 0 8 32), (44, vi 7), (43, vi 8), (42, .s 0 0 8 32), (0, .s 0 0 8 32), (1, vu ((u / 100000000 : Nat) : Int)), (4, vi 8), (8, vw ((2 * (u % 100000000 % 10000 / 100) : Nat) : Int)), (9, vw ((2 * (u % 100000000 % 10000 % 100) : Nat) : Int)), (10, vw ((2 * (u % 100000000 / 10000 / 100) : Nat) : Int)), (11, vw ((2 * (u % 100000000 / 10000 % 100) : Nat) : Int)), (20, vb true)]) (k := 0) (i := 7) (j := 6) (d8 := 50) (d10 := 52) (va := .int .u8 ((48 + (u % 100000000 % 10000 % 100) % 10 : Nat) : Int)) (vb := .int .u8 ((48 + (u % 100000000 % 10000 % 100) / 10 : Nat) : Int)) (by kernel_rfl) tabOk h28 M0 rfl (by kernel_rfl) (fun _ _ _ _ hd h => And.intro (hd.trans (And.left h)) (And.right h)) (by kernel_rfl) rfl rfl rfl (by decide) (fun a' h' W' => sm_lo (q := u % 100000000 % 10000 % 100) (by omega) rfl rfl (h'.2 49 _ rfl) (by kernel_rfl)) (by kernel_rfl) rfl rfl rfl (by decide) (fun a' h' W' => sm_hi (q := u % 100000000 % 10000 % 100) (by omega) rfl rfl (h'.2 51 _ rfl) (by kernel_rfl)) (by kernel_rfl) (by kernel_rfl) (by kernel_rfl) (by kernel_rfl) (by decide) rfl rfl sE (fun a29 W29 h29 d29 M29 G29 => ?_)
  replace d29 := d29.trans d28
  clear h28 d28
  replace M29 : Mw (bn [g]) [⟨g, 59, 32, (upm (upm m 7 (.int .u8 ((48 + (u % 100000000 % 10000 % 100) % 10 : Nat) : Int))) 6 (.int .u8 ((48 + (u % 100000000 % 10000 % 100) / 10 : Nat) : Int)))⟩] W29 := M29
  replace F := F.trans G29
  clear M0
  show Code.wp _ _ _ _ _
  refine wp_seq ?_
  refine reg_pair (N := 167) (T := TT) (L := [⟨g, 59, 32, (upm (upm m 7 (.int .u8 ((48 + (u % 100000000 % 10000 % 100) % 10 : Nat) : Int))) 6 (.int .u8 ((48 + (u % 100000000 % 10000 % 100) / 10 : Nat) : Int)))⟩]) (E := [(0, .s 0 0 8 32), (1, vu ((u / 100000000 : Nat) : Int)), (4, vi 8), (8, vw ((2 * (u % 100000000 % 10000 / 100) : Nat) : Int)), (10, vw ((2 * (u % 100000000 / 10000 / 100) : Nat) : Int)), (11, vw ((2 * (u % 100000000 / 10000 % 100) : Nat) : Int)), (20, vb true)]) (E1 := [(62, vw (IntKind.u32.wrap (((2 * (u % 100000000 % 10000 / 100) : Nat) : Int) + 1))), (61, vw ((2 * (u % 100000000 % 10000 / 100) : Nat) : Int)), (60, vi 4), (59, vi 8), (58, .s 0 0 8 32), (57, vi 5), (56, vi 8), (55, .s 0 0 8 32), (0, .s 0 0 8 32), (1, vu ((u / 100000000 : Nat) : Int)), (4, vi 8), (8, vw ((2 * (u % 100000000 % 10000 / 100) : Nat) : Int)), (10, vw ((2 * (u % 100000000 / 10000 / 100) : Nat) : Int)), (11, vw ((2 * (u % 100000000 / 10000 % 100) : Nat) : Int)), (20, vb true)]) (E2 := [(64, vw ((2 * (u % 100000000 % 10000 / 100) : Nat) : Int)), (63, vo ((48 + (u % 100000000 % 10000 / 100) % 10 : Nat) : Int)), (62, vw (IntKind.u32.wrap (((2 * (u % 100000000 % 10000 / 100) : Nat) : Int) + 1))), (61, vw ((2 * (u % 100000000 % 10000 / 100) : Nat) : Int)), (60, vi 4), (59, vi 8), (58, .s 0 0 8 32), (57, vi 5), (56, vi 8), (55, .s 0 0 8 32), (0, .s 0 0 8 32), (1, vu ((u / 100000000 : Nat) : Int)), (4, vi 8), (8, vw ((2 * (u % 100000000 % 10000 / 100) : Nat) : Int)), (10, vw ((2 * (u % 100000000 / 10000 / 100) : Nat) : Int)), (11, vw ((2 * (u % 100000000 / 10000 % 100) : Nat) : Int)), (20, vb true)]) (E3 := [(66, .p 0 5), (65, vo ((48 + (u % 100000000 % 10000 / 100) / 10 : Nat) : Int)), (64, vw ((2 * (u % 100000000 % 10000 / 100) : Nat) : Int)), (63, vo ((48 + (u % 100000000 % 10000 / 100) % 10 : Nat) : Int)), (62, vw (IntKind.u32.wrap (((2 * (u % 100000000 % 10000 / 100) : Nat) : Int) + 1))), (61, vw ((2 * (u % 100000000 % 10000 / 100) : Nat) : Int)), (60, vi 4), (59, vi 8), (58, .s 0 0 8 32), (57, vi 5), (56, vi 8), (55, .s 0 0 8 32), (0, .s 0 0 8 32), (1, vu ((u / 100000000 : Nat) : Int)), (4, vi 8), (8, vw ((2 * (u % 100000000 % 10000 / 100) : Nat) : Int)), (10, vw ((2 * (u % 100000000 / 10000 / 100) : Nat) : Int)), (11, vw ((2 * (u % 100000000 / 10000 % 100) : Nat) : Int)), (20, vb true)]) (E4 := [(0, .s 0 0 8 32), (1, vu ((u / 100000000 : Nat) : Int)), (4, vi 8), (10, vw ((2 * (u % 100000000 / 10000 / 100) : Nat) : Int)), (11, vw ((2 * (u % 100000000 / 10000 % 100) : Nat) : Int)), (20, vb true)]) (E5 := [(67, .p 0 4), (66, .p 0 5), (65, vo ((48 + (u % 100000000 % 10000 / 100) / 10 : Nat) : Int)), (64, vw ((2 * (u % 100000000 % 10000 / 100) : Nat) : Int)), (63, vo ((48 + (u % 100000000 % 10000 / 100) % 10 : Nat) : Int)), (62, vw (IntKind.u32.wrap (((2 * (u % 100000000 % 10000 / 100) : Nat) : Int) + 1))), (61, vw ((2 * (u % 100000000 % 10000 / 100) : Nat) : Int)), (60, vi 4), (59, vi 8), (58, .s 0 0 8 32), (57, vi 5), (56, vi 8), (55, .s 0 0 8 32), (0, .s 0 0 8 32), (1, vu ((u / 100000000 : Nat) : Int)), (4, vi 8), (8, vw ((2 * (u % 100000000 % 10000 / 100) : Nat) : Int)), (10, vw ((2 * (u % 100000000 / 10000 / 100) : Nat) : Int)), (11, vw ((2 * (u % 100000000 / 10000 % 100) : Nat) : Int)), (20, vb true)]) (k := 0) (i := 5) (j := 4) (d8 := 63) (d10 := 65) (va := .int .u8 ((48 + (u % 100000000 % 10000 / 100) % 10 : Nat) : Int)) (vb := .int .u8 ((48 + (u % 100000000 % 10000 / 100) / 10 : Nat) : Int)) (by kernel_rfl) tabOk h29 M29 rfl (by kernel_rfl) (fun _ _ _ _ hd h => And.intro (hd.trans (And.left h)) (And.right h)) (by kernel_rfl) rfl rfl rfl (by decide) (fun a' h' W' => sm_lo (q := u % 100000000 % 10000 / 100) (by omega) rfl rfl (h'.2 62 _ rfl) (by kernel_rfl)) (by kernel_rfl) rfl rfl rfl (by decide) (fun a' h' W' => sm_hi (q := u % 100000000 % 10000 / 100) (by omega) rfl rfl (h'.2 64 _ rfl) (by kernel_rfl)) (by kernel_rfl) (by kernel_rfl) (by kernel_rfl) (by kernel_rfl) (by decide) rfl rfl sE (fun a30 W30 h30 d30 M30 G30 => ?_)
  replace d30 := d30.trans d29
  clear h29 d29
  replace M30 : Mw (bn [g]) [⟨g, 59, 32, (upm (upm (upm (upm m 7 (.int .u8 ((48 + (u % 100000000 % 10000 % 100) % 10 : Nat) : Int))) 6 (.int .u8 ((48 + (u % 100000000 % 10000 % 100) / 10 : Nat) : Int))) 5 (.int .u8 ((48 + (u % 100000000 % 10000 / 100) % 10 : Nat) : Int))) 4 (.int .u8 ((48 + (u % 100000000 % 10000 / 100) / 10 : Nat) : Int)))⟩] W30 := M30
  replace F := F.trans G30
  clear M29
  show Code.wp _ _ _ _ _
  refine wp_seq ?_
  refine reg_pair (N := 167) (T := TT) (L := [⟨g, 59, 32, (upm (upm (upm (upm m 7 (.int .u8 ((48 + (u % 100000000 % 10000 % 100) % 10 : Nat) : Int))) 6 (.int .u8 ((48 + (u % 100000000 % 10000 % 100) / 10 : Nat) : Int))) 5 (.int .u8 ((48 + (u % 100000000 % 10000 / 100) % 10 : Nat) : Int))) 4 (.int .u8 ((48 + (u % 100000000 % 10000 / 100) / 10 : Nat) : Int)))⟩]) (E := [(0, .s 0 0 8 32), (1, vu ((u / 100000000 : Nat) : Int)), (4, vi 8), (10, vw ((2 * (u % 100000000 / 10000 / 100) : Nat) : Int)), (11, vw ((2 * (u % 100000000 / 10000 % 100) : Nat) : Int)), (20, vb true)]) (E1 := [(75, vw (IntKind.u32.wrap (((2 * (u % 100000000 / 10000 % 100) : Nat) : Int) + 1))), (74, vw ((2 * (u % 100000000 / 10000 % 100) : Nat) : Int)), (73, vi 2), (72, vi 8), (71, .s 0 0 8 32), (70, vi 3), (69, vi 8), (68, .s 0 0 8 32), (0, .s 0 0 8 32), (1, vu ((u / 100000000 : Nat) : Int)), (4, vi 8), (10, vw ((2 * (u % 100000000 / 10000 / 100) : Nat) : Int)), (11, vw ((2 * (u % 100000000 / 10000 % 100) : Nat) : Int)), (20, vb true)]) (E2 := [(77, vw ((2 * (u % 100000000 / 10000 % 100) : Nat) : Int)), (76, vo ((48 + (u % 100000000 / 10000 % 100) % 10 : Nat) : Int)), (75, vw (IntKind.u32.wrap (((2 * (u % 100000000 / 10000 % 100) : Nat) : Int) + 1))), (74, vw ((2 * (u % 100000000 / 10000 % 100) : Nat) : Int)), (73, vi 2), (72, vi 8), (71, .s 0 0 8 32), (70, vi 3), (69, vi 8), (68, .s 0 0 8 32), (0, .s 0 0 8 32), (1, vu ((u / 100000000 : Nat) : Int)), (4, vi 8), (10, vw ((2 * (u % 100000000 / 10000 / 100) : Nat) : Int)), (11, vw ((2 * (u % 100000000 / 10000 % 100) : Nat) : Int)), (20, vb true)]) (E3 := [(79, .p 0 3), (78, vo ((48 + (u % 100000000 / 10000 % 100) / 10 : Nat) : Int)), (77, vw ((2 * (u % 100000000 / 10000 % 100) : Nat) : Int)), (76, vo ((48 + (u % 100000000 / 10000 % 100) % 10 : Nat) : Int)), (75, vw (IntKind.u32.wrap (((2 * (u % 100000000 / 10000 % 100) : Nat) : Int) + 1))), (74, vw ((2 * (u % 100000000 / 10000 % 100) : Nat) : Int)), (73, vi 2), (72, vi 8), (71, .s 0 0 8 32), (70, vi 3), (69, vi 8), (68, .s 0 0 8 32), (0, .s 0 0 8 32), (1, vu ((u / 100000000 : Nat) : Int)), (4, vi 8), (10, vw ((2 * (u % 100000000 / 10000 / 100) : Nat) : Int)), (11, vw ((2 * (u % 100000000 / 10000 % 100) : Nat) : Int)), (20, vb true)]) (E4 := [(0, .s 0 0 8 32), (1, vu ((u / 100000000 : Nat) : Int)), (4, vi 8), (10, vw ((2 * (u % 100000000 / 10000 / 100) : Nat) : Int)), (20, vb true)]) (E5 := [(80, .p 0 2), (79, .p 0 3), (78, vo ((48 + (u % 100000000 / 10000 % 100) / 10 : Nat) : Int)), (77, vw ((2 * (u % 100000000 / 10000 % 100) : Nat) : Int)), (76, vo ((48 + (u % 100000000 / 10000 % 100) % 10 : Nat) : Int)), (75, vw (IntKind.u32.wrap (((2 * (u % 100000000 / 10000 % 100) : Nat) : Int) + 1))), (74, vw ((2 * (u % 100000000 / 10000 % 100) : Nat) : Int)), (73, vi 2), (72, vi 8), (71, .s 0 0 8 32), (70, vi 3), (69, vi 8), (68, .s 0 0 8 32), (0, .s 0 0 8 32), (1, vu ((u / 100000000 : Nat) : Int)), (4, vi 8), (10, vw ((2 * (u % 100000000 / 10000 / 100) : Nat) : Int)), (11, vw ((2 * (u % 100000000 / 10000 % 100) : Nat) : Int)), (20, vb true)]) (k := 0) (i := 3) (j := 2) (d8 := 76) (d10 := 78) (va := .int .u8 ((48 + (u % 100000000 / 10000 % 100) % 10 : Nat) : Int)) (vb := .int .u8 ((48 + (u % 100000000 / 10000 % 100) / 10 : Nat) : Int)) (by kernel_rfl) tabOk h30 M30 rfl (by kernel_rfl) (fun _ _ _ _ hd h => And.intro (hd.trans (And.left h)) (And.right h)) (by kernel_rfl) rfl rfl rfl (by decide) (fun a' h' W' => sm_lo (q := u % 100000000 / 10000 % 100) (by omega) rfl rfl (h'.2 75 _ rfl) (by kernel_rfl)) (by kernel_rfl) rfl rfl rfl (by decide) (fun a' h' W' => sm_hi (q := u % 100000000 / 10000 % 100) (by omega) rfl rfl (h'.2 77 _ rfl) (by kernel_rfl)) (by kernel_rfl) (by kernel_rfl) (by kernel_rfl) (by kernel_rfl) (by decide) rfl rfl sE (fun a31 W31 h31 d31 M31 G31 => ?_)
  replace d31 := d31.trans d30
  clear h30 d30
  replace M31 : Mw (bn [g]) [⟨g, 59, 32, (upm (upm (upm (upm (upm (upm m 7 (.int .u8 ((48 + (u % 100000000 % 10000 % 100) % 10 : Nat) : Int))) 6 (.int .u8 ((48 + (u % 100000000 % 10000 % 100) / 10 : Nat) : Int))) 5 (.int .u8 ((48 + (u % 100000000 % 10000 / 100) % 10 : Nat) : Int))) 4 (.int .u8 ((48 + (u % 100000000 % 10000 / 100) / 10 : Nat) : Int))) 3 (.int .u8 ((48 + (u % 100000000 / 10000 % 100) % 10 : Nat) : Int))) 2 (.int .u8 ((48 + (u % 100000000 / 10000 % 100) / 10 : Nat) : Int)))⟩] W31 := M31
  replace F := F.trans G31
  clear M30
  show Code.wp _ _ _ _ _
  refine wp_seq ?_
  refine reg_pair (N := 167) (T := TT) (L := [⟨g, 59, 32, (upm (upm (upm (upm (upm (upm m 7 (.int .u8 ((48 + (u % 100000000 % 10000 % 100) % 10 : Nat) : Int))) 6 (.int .u8 ((48 + (u % 100000000 % 10000 % 100) / 10 : Nat) : Int))) 5 (.int .u8 ((48 + (u % 100000000 % 10000 / 100) % 10 : Nat) : Int))) 4 (.int .u8 ((48 + (u % 100000000 % 10000 / 100) / 10 : Nat) : Int))) 3 (.int .u8 ((48 + (u % 100000000 / 10000 % 100) % 10 : Nat) : Int))) 2 (.int .u8 ((48 + (u % 100000000 / 10000 % 100) / 10 : Nat) : Int)))⟩]) (E := [(0, .s 0 0 8 32), (1, vu ((u / 100000000 : Nat) : Int)), (4, vi 8), (10, vw ((2 * (u % 100000000 / 10000 / 100) : Nat) : Int)), (20, vb true)]) (E1 := [(88, vw (IntKind.u32.wrap (((2 * (u % 100000000 / 10000 / 100) : Nat) : Int) + 1))), (87, vw ((2 * (u % 100000000 / 10000 / 100) : Nat) : Int)), (86, vi 0), (85, vi 8), (84, .s 0 0 8 32), (83, vi 1), (82, vi 8), (81, .s 0 0 8 32), (0, .s 0 0 8 32), (1, vu ((u / 100000000 : Nat) : Int)), (4, vi 8), (10, vw ((2 * (u % 100000000 / 10000 / 100) : Nat) : Int)), (20, vb true)]) (E2 := [(90, vw ((2 * (u % 100000000 / 10000 / 100) : Nat) : Int)), (89, vo ((48 + (u % 100000000 / 10000 / 100) % 10 : Nat) : Int)), (88, vw (IntKind.u32.wrap (((2 * (u % 100000000 / 10000 / 100) : Nat) : Int) + 1))), (87, vw ((2 * (u % 100000000 / 10000 / 100) : Nat) : Int)), (86, vi 0), (85, vi 8), (84, .s 0 0 8 32), (83, vi 1), (82, vi 8), (81, .s 0 0 8 32), (0, .s 0 0 8 32), (1, vu ((u / 100000000 : Nat) : Int)), (4, vi 8), (10, vw ((2 * (u % 100000000 / 10000 / 100) : Nat) : Int)), (20, vb true)]) (E3 := [(92, .p 0 1), (91, vo ((48 + (u % 100000000 / 10000 / 100) / 10 : Nat) : Int)), (90, vw ((2 * (u % 100000000 / 10000 / 100) : Nat) : Int)), (89, vo ((48 + (u % 100000000 / 10000 / 100) % 10 : Nat) : Int)), (88, vw (IntKind.u32.wrap (((2 * (u % 100000000 / 10000 / 100) : Nat) : Int) + 1))), (87, vw ((2 * (u % 100000000 / 10000 / 100) : Nat) : Int)), (86, vi 0), (85, vi 8), (84, .s 0 0 8 32), (83, vi 1), (82, vi 8), (81, .s 0 0 8 32), (0, .s 0 0 8 32), (1, vu ((u / 100000000 : Nat) : Int)), (4, vi 8), (10, vw ((2 * (u % 100000000 / 10000 / 100) : Nat) : Int)), (20, vb true)]) (E4 := [(0, .s 0 0 8 32), (1, vu ((u / 100000000 : Nat) : Int)), (4, vi 8), (20, vb true)]) (E5 := [(93, .p 0 0), (92, .p 0 1), (91, vo ((48 + (u % 100000000 / 10000 / 100) / 10 : Nat) : Int)), (90, vw ((2 * (u % 100000000 / 10000 / 100) : Nat) : Int)), (89, vo ((48 + (u % 100000000 / 10000 / 100) % 10 : Nat) : Int)), (88, vw (IntKind.u32.wrap (((2 * (u % 100000000 / 10000 / 100) : Nat) : Int) + 1))), (87, vw ((2 * (u % 100000000 / 10000 / 100) : Nat) : Int)), (86, vi 0), (85, vi 8), (84, .s 0 0 8 32), (83, vi 1), (82, vi 8), (81, .s 0 0 8 32), (0, .s 0 0 8 32), (1, vu ((u / 100000000 : Nat) : Int)), (4, vi 8), (10, vw ((2 * (u % 100000000 / 10000 / 100) : Nat) : Int)), (20, vb true)]) (k := 0) (i := 1) (j := 0) (d8 := 89) (d10 := 91) (va := .int .u8 ((48 + (u % 100000000 / 10000 / 100) % 10 : Nat) : Int)) (vb := .int .u8 ((48 + (u % 100000000 / 10000 / 100) / 10 : Nat) : Int)) (by kernel_rfl) tabOk h31 M31 rfl (by kernel_rfl) (fun _ _ _ _ hd h => And.intro (hd.trans (And.left h)) (And.right h)) (by kernel_rfl) rfl rfl rfl (by decide) (fun a' h' W' => sm_lo (q := u % 100000000 / 10000 / 100) (by omega) rfl rfl (h'.2 88 _ rfl) (by kernel_rfl)) (by kernel_rfl) rfl rfl rfl (by decide) (fun a' h' W' => sm_hi (q := u % 100000000 / 10000 / 100) (by omega) rfl rfl (h'.2 90 _ rfl) (by kernel_rfl)) (by kernel_rfl) (by kernel_rfl) (by kernel_rfl) (by kernel_rfl) (by decide) rfl rfl sE (fun a32 W32 h32 d32 M32 G32 => ?_)
  replace d32 := d32.trans d31
  clear h31 d31
  replace M32 : Mw (bn [g]) [⟨g, 59, 32, (upm (upm (upm (upm (upm (upm (upm (upm m 7 (.int .u8 ((48 + (u % 100000000 % 10000 % 100) % 10 : Nat) : Int))) 6 (.int .u8 ((48 + (u % 100000000 % 10000 % 100) / 10 : Nat) : Int))) 5 (.int .u8 ((48 + (u % 100000000 % 10000 / 100) % 10 : Nat) : Int))) 4 (.int .u8 ((48 + (u % 100000000 % 10000 / 100) / 10 : Nat) : Int))) 3 (.int .u8 ((48 + (u % 100000000 / 10000 % 100) % 10 : Nat) : Int))) 2 (.int .u8 ((48 + (u % 100000000 / 10000 % 100) / 10 : Nat) : Int))) 1 (.int .u8 ((48 + (u % 100000000 / 10000 / 100) % 10 : Nat) : Int))) 0 (.int .u8 ((48 + (u % 100000000 / 10000 / 100) / 10 : Nat) : Int)))⟩] W32 := M32
  replace F := F.trans G32
  clear M31
  show Code.wp _ _ _ _ _
  refine wp_region ?_
  refine oP 167 [] [0, 1, 2] [(0, .s 0 0 8 32), (1, vu ((u / 100000000 : Nat) : Int)), (4, vi 0), (20, vb true)] h32 d32 (fun a33 h33 d33 => ?_)
  clear h32 d32
  show Code.rounds _ _ _ _ _ _
  rw [rounds_succ]
  refine wp_seq ?_
  refine wp_seq (wp_region ?_)
  refine oP 167 [] [0, 1] [(0, .s 0 0 8 32), (1, vu ((u / 100000000 : Nat) : Int)), (4, vi 0), (20, vb false)] h33 d33 (fun a34 h34 d34 => ?_)
  clear h33 d33
  show Code.wp _ _ _ _ _
  refine wp_cond_false (h34.2 20 _ rfl) ?_
  refine wp_exit ?_
  refine then_exit (then_exit (exit_in ?_))
  show Code.wp _ _ _ _ _
  refine wp_seq (wp_region ?_)
  refine oP 167 [1, 2] [0] [(0, .s 0 0 8 32), (1, vu ((u / 100000000 : Nat) : Int)), (4, vi 0), (20, vb false), (96, vu ((u / 100000000 : Nat) : Int))] h34 d34 (fun a35 h35 d35 => ?_)
  clear h34 d34
  refine oP 167 [2] [1] [(0, .s 0 0 8 32), (1, vu ((u / 100000000 : Nat) : Int)), (4, vi 0), (20, vb false), (96, vu ((u / 100000000 : Nat) : Int)), (97, vw (IntKind.u32.wrap (((u / 100000000 : Nat) : Int))))] h35 d35 (fun a36 h36 d36 => ?_)
  clear h35 d35
  rw [show (IntKind.u32.wrap (((u / 100000000 : Nat) : Int))) = ((u / 100000000 : Nat) : Int) from n_c32 (u / 100000000) (by omega)] at h36
  refine oP 167 [] [2] [(0, .s 0 0 8 32), (1, vu ((u / 100000000 : Nat) : Int)), (4, vi 0), (12, vw ((u / 100000000 : Nat) : Int)), (20, vb false)] h36 d36 (fun a37 h37 d37 => ?_)
  clear h36 d36
  show Code.wp _ _ _ _ _
  refine wp_seq ?_
  refine wp_seq (wp_region ?_)
  refine oP 167 [] [0, 1] [(0, .s 0 0 8 32), (1, vu ((u / 100000000 : Nat) : Int)), (4, vi 0), (12, vw ((u / 100000000 : Nat) : Int)), (20, vb false), (99, vb false)] h37 d37 (fun a38 h38 d38 => ?_)
  clear h37 d37
  show Code.wp _ _ _ _ _
  refine wp_cond_false (h38.2 99 _ rfl) ?_
  refine wp_skip ?_
  show Code.wp _ _ _ _ _
  refine wp_seq ?_
  refine wp_seq (wp_region ?_)
  refine oP 167 [] [0, 1] [(0, .s 0 0 8 32), (1, vu ((u / 100000000 : Nat) : Int)), (4, vi 0), (12, vw ((u / 100000000 : Nat) : Int)), (20, vb false), (99, vb false), (139, vb false)] h38 d38 (fun a39 h39 d39 => ?_)
  clear h38 d38
  show Code.wp _ _ _ _ _
  refine wp_cond_false (h39.2 139 _ rfl) ?_
  refine wp_skip ?_
  show Code.wp _ _ _ _ _
  refine wp_seq (wp_region ?_)
  refine oP 167 [] [0, 1] [(0, .s 0 0 8 32), (1, vu ((u / 100000000 : Nat) : Int)), (4, vi 0), (12, vw ((u / 100000000 : Nat) : Int)), (20, vb false), (99, vb false), (139, vb false), (161, vb false)] h39 d39 (fun a40 h40 d40 => ?_)
  clear h39 d39
  show Code.wp _ _ _ _ _
  refine wp_cond_false (h40.2 161 _ rfl) ?_
  refine wp_skip ?_
  refine ⟨d40, _, results_none rfl _ _ _, rfl, ?_, F⟩
  refine Bl.In.eq (M32.2.get (k := 0) rfl) (fun i hi => ?_)
  by_cases q0 : i = 0
  · subst q0
    show Value.int .u8 ((48 + (u % 100000000 / 10000 / 100) / 10 : Nat) : Int) = Value.int .u8 ((48 + u / 10000000 % 10 : Nat) : Int)
    rw [show 48 + (u % 100000000 / 10000 / 100) / 10 = 48 + u / 10000000 % 10 from by omega]
  by_cases q1 : i = 1
  · subst q1
    show Value.int .u8 ((48 + (u % 100000000 / 10000 / 100) % 10 : Nat) : Int) = Value.int .u8 ((48 + u / 1000000 % 10 : Nat) : Int)
    rw [show 48 + (u % 100000000 / 10000 / 100) % 10 = 48 + u / 1000000 % 10 from by omega]
  by_cases q2 : i = 2
  · subst q2
    show Value.int .u8 ((48 + (u % 100000000 / 10000 % 100) / 10 : Nat) : Int) = Value.int .u8 ((48 + u / 100000 % 10 : Nat) : Int)
    rw [show 48 + (u % 100000000 / 10000 % 100) / 10 = 48 + u / 100000 % 10 from by omega]
  by_cases q3 : i = 3
  · subst q3
    show Value.int .u8 ((48 + (u % 100000000 / 10000 % 100) % 10 : Nat) : Int) = Value.int .u8 ((48 + u / 10000 % 10 : Nat) : Int)
    rw [show 48 + (u % 100000000 / 10000 % 100) % 10 = 48 + u / 10000 % 10 from by omega]
  by_cases q4 : i = 4
  · subst q4
    show Value.int .u8 ((48 + (u % 100000000 % 10000 / 100) / 10 : Nat) : Int) = Value.int .u8 ((48 + u / 1000 % 10 : Nat) : Int)
    rw [show 48 + (u % 100000000 % 10000 / 100) / 10 = 48 + u / 1000 % 10 from by omega]
  by_cases q5 : i = 5
  · subst q5
    show Value.int .u8 ((48 + (u % 100000000 % 10000 / 100) % 10 : Nat) : Int) = Value.int .u8 ((48 + u / 100 % 10 : Nat) : Int)
    rw [show 48 + (u % 100000000 % 10000 / 100) % 10 = 48 + u / 100 % 10 from by omega]
  by_cases q6 : i = 6
  · subst q6
    show Value.int .u8 ((48 + (u % 100000000 % 10000 % 100) / 10 : Nat) : Int) = Value.int .u8 ((48 + u / 10 % 10 : Nat) : Int)
    rw [show 48 + (u % 100000000 % 10000 % 100) / 10 = 48 + u / 10 % 10 from by omega]
  by_cases q7 : i = 7
  · subst q7
    show Value.int .u8 ((48 + (u % 100000000 % 10000 % 100) % 10 : Nat) : Int) = Value.int .u8 ((48 + u / 1 % 10 : Nat) : Int)
    rw [show 48 + (u % 100000000 % 10000 % 100) % 10 = 48 + u / 1 % 10 from by omega]
  unfold dgM
  rw [if_neg (by omega)]
  show (upm (upm (upm (upm (upm (upm (upm (upm m 7 (.int .u8 ((48 + (u % 100000000 % 10000 % 100) % 10 : Nat) : Int))) 6 (.int .u8 ((48 + (u % 100000000 % 10000 % 100) / 10 : Nat) : Int))) 5 (.int .u8 ((48 + (u % 100000000 % 10000 / 100) % 10 : Nat) : Int))) 4 (.int .u8 ((48 + (u % 100000000 % 10000 / 100) / 10 : Nat) : Int))) 3 (.int .u8 ((48 + (u % 100000000 / 10000 % 100) % 10 : Nat) : Int))) 2 (.int .u8 ((48 + (u % 100000000 / 10000 % 100) / 10 : Nat) : Int))) 1 (.int .u8 ((48 + (u % 100000000 / 10000 / 100) % 10 : Nat) : Int))) 0 (.int .u8 ((48 + (u % 100000000 / 10000 / 100) / 10 : Nat) : Int))) i = _
  unfold upm
  repeat rw [if_neg (by omega)]
end Go.Proofs.YtmgnffklmdhooaaDoor.PAll
namespace Go.Proofs.YtmgnffklmdhooaaDoor.PAll
open Go.RowKit Go.Proofs.YtmgnffklmdhooaaDoorW.PrintWords Go.Proofs.YtmgnffklmdhooaaDoorW.PrintLast Go.Proofs.YtmgnffklmdhooaaDoorW.PrintMore
set_option linter.unusedVariables false
set_option linter.unusedSimpArgs false
set_option maxHeartbeats 8000000 in
set_option maxRecDepth 100000 in
theorem fmt9_walk (g u : Nat) (m : Nat → Value) (hu : u < 1000000000) (w : World) (hg : (⟨g, 59, 32, m⟩ : Bl).In w) :
    Calls Tryd.prog 55 #[.slice (some ⟨g, 0, none⟩) 9 32, .int .u64 (u : Int)] w fun e' w' => e' = .returned (.tuple #[]) ∧ (⟨g, 59, 32, dgM m 9 u⟩ : Bl).In w' ∧ Fr [g] w w' := by
  refine calls_of_wp Tryd.func55 rfl ?_
  have h0 := has_two (β := bn [g]) (.s 0 0 9 32) (vu (u : Int)) 165
  have d0 : (⟨#[.slice (some ⟨g, 0, none⟩) 9 32, .int .u64 (u : Int)] ++ Array.replicate 165 undef, []⟩ : Act).defers = [] := rfl
  have M0 : Mw (bn [g]) [⟨g, 59, 32, m⟩] w := ⟨bg_bn _, hg, by simp, trivial⟩
  have F := Fr.refl [g] w
  refine wp_seq (wp_region ?_)
  refine oP 167 [] [0, 1, 2] [(0, .s 0 0 9 32), (1, vu ↑u), (4, vi 9)] h0 d0 (fun a1 h1 d1 => ?_)
  clear h0 d0
  show Code.wp _ _ _ _ _
  refine wp_seq ?_
  refine wp_block ?_
  refine wp_loop_rounds 2 ?_
  rw [rounds_succ]
  refine wp_seq ?_
  refine wp_seq (wp_region ?_)
  refine oP 167 [] [0, 1] [(0, .s 0 0 9 32), (1, vu ↑u), (4, vi 9), (20, vb true)] h1 d1 (fun a2 h2 d2 => ?_)
  clear h1 d1
  show Code.wp _ _ _ _ _
  refine wp_cond_true (h2.2 20 _ rfl) ?_
  refine wp_skip ?_
  show Code.wp _ _ _ _ _
  refine wp_block ?_
  refine wp_seq (wp_region ?_)
  refine oP 167 [1, 2, 3] [0] [(0, .s 0 0 9 32), (1, vu ↑u), (4, vi 9), (20, vb true), (21, vu ↑u)] h2 d2 (fun a3 h3 d3 => ?_)
  clear h2 d2
  refine oP 167 [2, 3] [1] [(0, .s 0 0 9 32), (1, vu ↑u), (4, vi 9), (20, vb true), (21, vu ↑u), (22, vu (Int.tmod ((u : Nat) : Int) 100000000))] h3 d3 (fun a4 h4 d4 => ?_)
  clear h3 d3
  rw [show (Int.tmod ((u : Nat) : Int) 100000000) = ((u % 100000000 : Nat) : Int) from n_rem (u) 100000000] at h4
  refine oP 167 [3] [2] [(0, .s 0 0 9 32), (1, vu ↑u), (4, vi 9), (20, vb true), (21, vu ↑u), (22, vu ((u % 100000000 : Nat) : Int)), (23, vw (IntKind.u32.wrap (((u % 100000000 : Nat) : Int))))] h4 d4 (fun a5 h5 d5 => ?_)
  clear h4 d4
  rw [show (IntKind.u32.wrap (((u % 100000000 : Nat) : Int))) = ((u % 100000000 : Nat) : Int) from n_c32 (u % 100000000) (by omega)] at h5
  refine oP 167 [] [3] [(0, .s 0 0 9 32), (1, vu ↑u), (4, vi 9), (5, vw ((u % 100000000 : Nat) : Int)), (20, vb true)] h5 d5 (fun a6 h6 d6 => ?_)
  clear h5 d5
  show Code.wp _ _ _ _ _
  refine wp_seq (wp_region ?_)
  refine oP 167 [1, 2] [0] [(0, .s 0 0 9 32), (1, vu ↑u), (4, vi 9), (5, vw ((u % 100000000 : Nat) : Int)), (20, vb true), (24, vu ↑u)] h6 d6 (fun a7 h7 d7 => ?_)
  clear h6 d6
  refine oP 167 [2] [1] [(0, .s 0 0 9 32), (1, vu ↑u), (4, vi 9), (5, vw ((u % 100000000 : Nat) : Int)), (20, vb true), (24, vu ↑u), (25, vu (IntKind.u64.wrap (Int.tdiv ((u : Nat) : Int) 100000000)))] h7 d7 (fun a8 h8 d8 => ?_)
  clear h7 d7
  rw [show (IntKind.u64.wrap (Int.tdiv ((u : Nat) : Int) 100000000)) = ((u / 100000000 : Nat) : Int) from n_q64 (u) 100000000 (by omega)] at h8
  refine oP 167 [] [2] [(0, .s 0 0 9 32), (1, vu ((u / 100000000 : Nat) : Int)), (4, vi 9), (5, vw ((u % 100000000 : Nat) : Int)), (20, vb true)] h8 d8 (fun a9 h9 d9 => ?_)
  clear h8 d8
  show Code.wp _ _ _ _ _
  refine wp_seq (wp_region ?_)
  refine oP 167 [1, 2, 3, 4, 5] [0] [(0, .s 0 0 9 32), (1, vu ((u / 100000000 : Nat) : Int)), (4, vi 9), (5, vw ((u % 100000000 : Nat) : Int)), (20, vb true), (26, vw ((u % 100000000 : Nat) : Int))] h9 d9 (fun a10 h10 d10 => ?_)
  clear h9 d9
  refine oP 167 [2, 3, 4, 5] [1] [(0, .s 0 0 9 32), (1, vu ((u / 100000000 : Nat) : Int)), (4, vi 9), (5, vw ((u % 100000000 : Nat) : Int)), (20, vb true), (26, vw ((u % 100000000 : Nat) : Int)), (27, vw (IntKind.u32.wrap (Int.tdiv ((u % 100000000 : Nat) : Int) 10000)))] h10 d10 (fun a11 h11 d11 => ?_)
  clear h10 d10
  rw [show (IntKind.u32.wrap (Int.tdiv ((u % 100000000 : Nat) : Int) 10000)) = ((u % 100000000 / 10000 : Nat) : Int) from n_q32 (u % 100000000) 10000 (by omega)] at h11
  refine oP 167 [3, 4, 5] [2] [(0, .s 0 0 9 32), (1, vu ((u / 100000000 : Nat) : Int)), (4, vi 9), (5, vw ((u % 100000000 : Nat) : Int)), (20, vb true), (26, vw ((u % 100000000 : Nat) : Int)), (27, vw ((u % 100000000 / 10000 : Nat) : Int)), (28, vw ((u % 100000000 : Nat) : Int))] h11 d11 (fun a12 h12 d12 => ?_)
  clear h11 d11
  refine oP 167 [4, 5] [3] [(0, .s 0 0 9 32), (1, vu ((u / 100000000 : Nat) : Int)), (4, vi 9), (5, vw ((u % 100000000 : Nat) : Int)), (20, vb true), (26, vw ((u % 100000000 : Nat) : Int)), (27, vw ((u % 100000000 / 10000 : Nat) : Int)), (28, vw ((u % 100000000 : Nat) : Int)), (29, vw (Int.tmod ((u % 100000000 : Nat) : Int) 10000))] h12 d12 (fun a13 h13 d13 => ?_)
  clear h12 d12
  rw [show (Int.tmod ((u % 100000000 : Nat) : Int) 10000) = ((u % 100000000 % 10000 : Nat) : Int) from n_rem (u % 100000000) 10000] at h13
  refine oP 167 [] [4, 5] [(0, .s 0 0 9 32), (1, vu ((u / 100000000 : Nat) : Int)), (4, vi 9), (6, vw ((u % 100000000 / 10000 : Nat) : Int)), (7, vw ((u % 100000000 % 10000 : Nat) : Int)), (20, vb true)] h13 d13 (fun a14 h14 d14 => ?_)
  clear h13 d13
  show Code.wp _ _ _ _ _
  refine wp_seq (wp_region ?_)
  refine oP 167 [1, 2, 3, 4, 5, 6, 7] [0] [(0, .s 0 0 9 32), (1, vu ((u / 100000000 : Nat) : Int)), (4, vi 9), (6, vw ((u % 100000000 / 10000 : Nat) : Int)), (7, vw ((u % 100000000 % 10000 : Nat) : Int)), (20, vb true), (30, vw ((u % 100000000 % 10000 : Nat) : Int))] h14 d14 (fun a15 h15 d15 => ?_)
  clear h14 d14
  refine oP 167 [2, 3, 4, 5, 6, 7] [1] [(0, .s 0 0 9 32), (1, vu ((u / 100000000 : Nat) : Int)), (4, vi 9), (6, vw ((u % 100000000 / 10000 : Nat) : Int)), (7, vw ((u % 100000000 % 10000 : Nat) : Int)), (20, vb true), (30, vw ((u % 100000000 % 10000 : Nat) : Int)), (31, vw (IntKind.u32.wrap (Int.tdiv ((u % 100000000 % 10000 : Nat) : Int) 100)))] h15 d15 (fun a16 h16 d16 => ?_)
  clear h15 d15
  rw [show (IntKind.u32.wrap (Int.tdiv ((u % 100000000 % 10000 : Nat) : Int) 100)) = ((u % 100000000 % 10000 / 100 : Nat) : Int) from n_q32 (u % 100000000 % 10000) 100 (by omega)] at h16
  refine oP 167 [3, 4, 5, 6, 7] [2] [(0, .s 0 0 9 32), (1, vu ((u / 100000000 : Nat) : Int)), (4, vi 9), (6, vw ((u % 100000000 / 10000 : Nat) : Int)), (7, vw ((u % 100000000 % 10000 : Nat) : Int)), (20, vb true), (30, vw ((u % 100000000 % 10000 : Nat) : Int)), (31, vw ((u % 100000000 % 10000 / 100 : Nat) : Int)), (32, vw (IntKind.u32.wrap (((u % 100000000 % 10000 / 100 : Nat) : Int) * 2)))] h16 d16 (fun a17 h17 d17 => ?_)
  clear h16 d16
  rw [show (IntKind.u32.wrap (((u % 100000000 % 10000 / 100 : Nat) : Int) * 2)) = ((2 * (u % 100000000 % 10000 / 100) : Nat) : Int) from n_m2 (u % 100000000 % 10000 / 100) (by omega)] at h17
  refine oP 167 [4, 5, 6, 7] [3] [(0, .s 0 0 9 32), (1, vu ((u / 100000000 : Nat) : Int)), (4, vi 9), (6, vw ((u % 100000000 / 10000 : Nat) : Int)), (7, vw ((u % 100000000 % 10000 : Nat) : Int)), (20, vb true), (30, vw ((u % 100000000 % 10000 : Nat) : Int)), (31, vw ((u % 100000000 % 10000 / 100 : Nat) : Int)), (32, vw ((2 * (u % 100000000 % 10000 / 100) : Nat) : Int)), (33, vw ((u % 100000000 % 10000 : Nat) : Int))] h17 d17 (fun a18 h18 d18 => ?_)
  clear h17 d17
  refine oP 167 [5, 6, 7] [4] [(0, .s 0 0 9 32), (1, vu ((u / 100000000 : Nat) : Int)), (4, vi 9), (6, vw ((u % 100000000 / 10000 : Nat) : Int)), (7, vw ((u % 100000000 % 10000 : Nat) : Int)), (20, vb true), (30, vw ((u % 100000000 % 10000 : Nat) : Int)), (31, vw ((u % 100000000 % 10000 / 100 : Nat) : Int)), (32, vw ((2 * (u % 100000000 % 10000 / 100) : Nat) : Int)), (33, vw ((u % 100000000 % 10000 : Nat) : Int)), (34, vw (Int.tmod ((u % 100000000 % 10000 : Nat) : Int) 100))] h18 d18 (fun a19 h19 d19 => ?_)
  clear h18 d18
  rw [show (Int.tmod ((u % 100000000 % 10000 : Nat) : Int) 100) = ((u % 100000000 % 10000 % 100 : Nat) : Int) from n_rem (u % 100000000 % 10000) 100] at h19
  refine oP 167 [6, 7] [5] [(0, .s 0 0 9 32), (1, vu ((u / 100000000 : Nat) : Int)), (4, vi 9), (6, vw ((u % 100000000 / 10000 : Nat) : Int)), (7, vw ((u % 100000000 % 10000 : Nat) : Int)), (20, vb true), (30, vw ((u % 100000000 % 10000 : Nat) : Int)), (31, vw ((u % 100000000 % 10000 / 100 : Nat) : Int)), (32, vw ((2 * (u % 100000000 % 10000 / 100) : Nat) : Int)), (33, vw ((u % 100000000 % 10000 : Nat) : Int)), (34, vw ((u % 100000000 % 10000 % 100 : Nat) : Int)), (35, vw (IntKind.u32.wrap (((u % 100000000 % 10000 % 100 : Nat) : Int) * 2)))] h19 d19 (fun a20 h20 d20 => ?_)
  clear h19 d19
  rw [show (IntKind.u32.wrap (((u % 100000000 % 10000 % 100 : Nat) : Int) * 2)) = ((2 * (u % 100000000 % 10000 % 100) : Nat) : Int) from n_m2 (u % 100000000 % 10000 % 100) (by omega)] at h20
  refine oP 167 [] [6, 7] [(0, .s 0 0 9 32), (1, vu ((u / 100000000 : Nat) : Int)), (4, vi 9), (6, vw ((u % 100000000 / 10000 : Nat) : Int)), (8, vw ((2 * (u % 100000000 % 10000 / 100) : Nat) : Int)), (9, vw ((2 * (u % 100000000 % 10000 % 100) : Nat) : Int)), (20, vb true)] h20 d20 (fun a21 h21 d21 => ?_)
  clear h20 d20
  show Code.wp _ _ _ _ _
  refine wp_seq (wp_region ?_)
  refine oP 167 [1, 2, 3, 4, 5, 6, 7] [0] [(0, .s 0 0 9 32), (1, vu ((u / 100000000 : Nat) : Int)), (4, vi 9), (6, vw ((u % 100000000 / 10000 : Nat) : Int)), (8, vw ((2 * (u % 100000000 % 10000 / 100) : Nat) : Int)), (9, vw ((2 * (u % 100000000 % 10000 % 100) : Nat) : Int)), (20, vb true), (36, vw ((u % 100000000 / 10000 : Nat) : Int))] h21 d21 (fun a22 h22 d22 => ?_)
  clear h21 d21
  refine oP 167 [2, 3, 4, 5, 6, 7] [1] [(0, .s 0 0 9 32), (1, vu ((u / 100000000 : Nat) : Int)), (4, vi 9), (6, vw ((u % 100000000 / 10000 : Nat) : Int)), (8, vw ((2 * (u % 100000000 % 10000 / 100) : Nat) : Int)), (9, vw ((2 * (u % 100000000 % 10000 % 100) : Nat) : Int)), (20, vb true), (36, vw ((u % 100000000 / 10000 : Nat) : Int)), (37, vw (IntKind.u32.wrap (Int.tdiv ((u % 100000000 / 10000 : Nat) : Int) 100)))] h22 d22 (fun a23 h23 d23 => ?_)
  clear h22 d22
  rw [show (IntKind.u32.wrap (Int.tdiv ((u % 100000000 / 10000 : Nat) : Int) 100)) = ((u % 100000000 / 10000 / 100 : Nat) : Int) from n_q32 (u % 100000000 / 10000) 100 (by omega)] at h23
  refine oP 167 [3, 4, 5, 6, 7] [2] [(0, .s 0 0 9 32), (1, vu ((u / 100000000 : Nat) : Int)), (4, vi 9), (6, vw ((u % 100000000 / 10000 : Nat) : Int)), (8, vw ((2 * (u % 100000000 % 10000 / 100) : Nat) : Int)), (9, vw ((2 * (u % 100000000 % 10000 % 100) : Nat) : Int)), (20, vb true), (36, vw ((u % 100000000 / 10000 : Nat) : Int)), (37, vw ((u % 100000000 / 10000 / 100 : Nat) : Int)), (38, vw (IntKind.u32.wrap (((u % 100000000 / 10000 / 100 : Nat) : Int) * 2)))] h23 d23 (fun a24 h24 d24 => ?_)
  clear h23 d23
  rw [show (IntKind.u32.wrap (((u % 100000000 / 10000 / 100 : Nat) : Int) * 2)) = ((2 * (u % 100000000 / 10000 / 100) : Nat) : Int) from n_m2 (u % 100000000 / 10000 / 100) (by omega)] at h24
  refine oP 167 [4, 5, 6, 7] [3] [(0, .s 0 0 9 32), (1, vu ((u / 100000000 : Nat) : Int)), (4, vi 9), (6, vw ((u % 100000000 / 10000 : Nat) : Int)), (8, vw ((2 * (u % 100000000 % 10000 / 100) : Nat) : Int)), (9, vw ((2 * (u % 100000000 % 10000 % 100) : Nat) : Int)), (20, vb true), (36, vw ((u % 100000000 / 10000 : Nat) : Int)), (37, vw ((u % 100000000 / 10000 / 100 : Nat) : Int)), (38, vw ((2 * (u % 100000000 / 10000 / 100) : Nat) : Int)), (39, vw ((u % 100000000 / 10000 : Nat) : Int))] h24 d24 (fun a25 h25 d25 => ?_)
  clear h24 d24
  refine oP 167 [5, 6, 7] [4] [(0, .s 0 0 9 32), (1, vu ((u / 100000000 : Nat) : Int)), (4, vi 9), (6, vw ((u % 100000000 / 10000 : Nat) : Int)), (8, vw ((2 * (u % 100000000 % 10000 / 100) : Nat) : Int)), (9, vw ((2 * (u % 100000000 % 10000 % 100) : Nat) : Int)), (20, vb true), (36, vw ((u % 100000000 / 10000 : Nat) : Int)), (37, vw ((u % 100000000 / 10000 / 100 : Nat) : Int)), (38, vw ((2 * (u % 100000000 / 10000 / 100) : Nat) : Int)), (39, vw ((u % 100000000 / 10000 : Nat) : Int)), (40, vw (Int.tmod ((u % 100000000 / 10000 : Nat) : Int) 100))] h25 d25 (fun a26 h26 d26 => ?_)
  clear h25 d25
  rw [show (Int.tmod ((u % 100000000 / 10000 : Nat) : Int) 100) = ((u % 100000000 / 10000 % 100 : Nat) : Int) from n_rem (u % 100000000 / 10000) 100] at h26
  refine oP 167 [6, 7] [5] [(0, .s 0 0 9 32), (1, vu ((u / 100000000 : Nat) : Int)), (4, vi 9), (6, vw ((u % 100000000 / 10000 : Nat) : Int)), (8, vw ((2 * (u % 100000000 % 10000 / 100) : Nat) : Int)), (9, vw ((2 * (u % 100000000 % 10000 % 100) : Nat) : Int)), (20, vb true), (36, vw ((u % 100000000 / 10000 : Nat) : Int)), (37, vw ((u % 100000000 / 10000 / 100 : Nat) : Int)), (38, vw ((2 * (u % 100000000 / 10000 / 100) : Nat) : Int)), (39, vw ((u % 100000000 / 10000 : Nat) : Int)), (40, vw ((u % 100000000 / 10000 % 100 : Nat) : Int)), (41, vw (IntKind.u32.wrap (((u % 100000000 / 10000 % 100 : Nat) : Int) * 2)))] h26 d26 (fun a27 h27 d27 => ?_)
  clear h26 d26
  rw [show (IntKind.u32.wrap (((u % 100000000 / 10000 % 100 : Nat) : Int) * 2)) = ((2 * (u % 100000000 / 10000 % 100) : Nat) : Int) from n_m2 (u % 100000000 / 10000 % 100) (by omega)] at h27
  refine oP 167 [] [6, 7] [(0, .s 0 0 9 32), (1, vu ((u / 100000000 : Nat) : Int)), (4, vi 9), (8, vw ((2 * (u % 100000000 % 10000 / 100) : Nat) : Int)), (9, vw ((2 * (u % 100000000 % 10000 % 100) : Nat) : Int)), (10, vw ((2 * (u % 100000000 / 10000 / 100) : Nat) : Int)), (11, vw ((2 * (u % 100000000 / 10000 % 100) : Nat) : Int)), (20, vb true)] h27 d27 (fun a28 h28 d28 => ?_)
  clear h27 d27
  show Code.wp _ _ _ _ _
  refine wp_seq ?_
  refine reg_pair (N := 167) (T := TT) (L := [⟨g, 59, 32, m⟩]) (E := [(0, .s 0 0 9 32), (1, vu ((u / 100000000 : Nat) : Int)), (4, vi 9), (8, vw ((2 * (u % 100000000 % 10000 / 100) : Nat) : Int)), (9, vw ((2 * (u % 100000000 % 10000 % 100) : Nat) : Int)), (10, vw ((2 * (u % 100000000 / 10000 / 100) : Nat) : Int)), (11, vw ((2 * (u % 100000000 / 10000 % 100) : Nat) : Int)), (20, vb true)]) (E1 := [(49, vw (IntKind.u32.wrap (((2 * (u % 100000000 % 10000 % 100) : Nat) : Int) + 1))), (48, vw ((2 * (u % 100000000 % 10000 % 100) : Nat) : Int)), (47, vi 7), (46, vi 9), (45, .s 0 0 9 32), (44, vi 8), (43, vi 9), (42, .s 0 0 9 32), (0, .s 0 0 9 32), (1, vu ((u / 100000000 : Nat) : Int)), (4, vi 9), (8, vw ((2 * (u % 100000000 % 10000 / 100) : Nat) : Int)), (9, vw ((2 * (u % 100000000 % 10000 % 100) : Nat) : Int)), (10, vw ((2 * (u % 100000000 / 10000 / 100) : Nat) : Int)), (11, vw ((2 * (u % 100000000 / 10000 % 100) : Nat) : Int)), (20, vb true)]) (E2 := [(51, vw ((2 * (u % 100000000 % 10000 % 100) : Nat) : Int)), (50, vo ((48 + (u % 100000000 % 10000 % 100) % 10 : Nat) : Int)), (49, vw (IntKind.u32.wrap (((2 * (u % 100000000 % 10000 % 100) : Nat) : Int) + 1))), (48, vw ((2 * (u % 100000000 % 10000 % 100) : Nat) : Int)), (47, vi 7), (46, vi 9), (45, .s 0 0 9 32), (44, vi 8), (43, vi 9), (42, .s 0 0 9 32), (0, .s 0 0 9 32), (1, vu ((u / 100000000 : Nat) : Int)), (4, vi 9), (8, vw ((2 * (u % 100000000 % 10000 / 100) : Nat) : Int)), (9, vw ((2 * (u % 100000000 % 10000 % 100) : Nat) : Int)), (10, vw ((2 * (u % 100000000 / 10000 / 100) : Nat) : Int)), (11, vw ((2 * (u % 100000000 / 10000 % 100) : Nat) : Int)), (20, vb true)]) (E3 := [(53, .p 0 8), (52, vo ((48 + (u % 100000000 % 10000 % 100) / 10 : Nat) : Int)), (51, vw ((2 * (u % 100000000 % 10000 % 100) : Nat) : Int)), (50, vo ((48 + (u % 100000000 % 10000 % 100) % 10 : Nat) : Int)), (49, vw (IntKind.u32.wrap (((2 * (u % 100000000 % 10000 % 100) : Nat) : Int) + 1))), (48, vw ((2 * (u % 100000000 % 10000 % 100) : Nat) : Int)), (47, vi 7), (46, vi 9), (45, .s 0 0 9 32), (44, vi 8), (43, vi 9), (42, .s 0 0 9 32), (0, .s 0 0 9 32), (1, vu ((u / 100000000 : Nat) : Int)), (4, vi 9), (8, vw ((2 * (u % 100000000 % 10000 / 100) : Nat) : Int)), (9, vw ((2 * (u % 100000000 % 10000 % 100) : Nat) : Int)), (10, vw ((2 * (u % 100000000 / 10000 / 100) : Nat) : Int)), (11, vw ((2 * (u % 100000000 / 10000 % 100) : Nat) : Int)), (20, vb true)]) (E4 := [(0, .s 0 0 9 32), (1, vu ((u / 100000000 : Nat) : Int)), (4, vi 9), (8, vw ((2 * (u % 100000000 % 10000 / 100) : Nat) : Int)), (10, vw ((2 * (u % 100000000 / 10000 / 100) : Nat) : Int)), (11, vw ((2 * (u % 100000000 / 10000 % 100) : Nat) : Int)), (20, vb true)]) (E5 := [(54, .p 0 7), (53, .p 0 8), (52, vo ((48 + (u % 100000000 % 10000 % 100) / 10 : Nat) : Int)), (51, vw ((2 * (u % 100000000 % 10000 % 100) : Nat) : Int)), (50, vo ((48 + (u % 100000000 % 10000 % 100) % 10 : Nat) : Int)), (49, vw (IntKind.u32.wrap (((2 * (u % 100000000 % 10000 % 100) : Nat) : Int) + 1))), (48, vw ((2 * (u % 100000000 % 10000 % 100) : Nat) : Int)), (47, vi 7), (46, vi 9), (45, .s 0 0 9 32), (44, vi 8), (43, vi 9), (42, .s 0 0 9 32), (0, .s 0 0 9 32), (1, vu ((u / 100000000 : Nat) : Int)), (4, vi 9), (8, vw ((2 * (u % 100000000 % 10000 / 100) : Nat) : Int)), (9, vw ((2 * (u % 100000000 % 10000 % 100) : Nat) : Int)), (10, vw ((2 * (u % 100000000 / 10000 / 100) : Nat) : Int)), (11, vw ((2 * (u % 100000000 / 10000 % 100) : Nat) : Int)), (20, vb true)]) (k := 0) (i := 8) (j := 7) (d8 := 50) (d10 := 52) (va := .int .u8 ((48 + (u % 100000000 % 10000 % 100) % 10 : Nat) : Int)) (vb := .int .u8 ((48 + (u % 100000000 % 10000 % 100) / 10 : Nat) : Int)) (by kernel_rfl) tabOk h28 M0 rfl (by kernel_rfl) (fun _ _ _ _ hd h => And.intro (hd.trans (And.left h)) (And.right h)) (by kernel_rfl) rfl rfl rfl (by decide) (fun a' h' W' => sm_lo (q := u % 100000000 % 10000 % 100) (by omega) rfl rfl (h'.2 49 _ rfl) (by kernel_rfl)) (by kernel_rfl) rfl rfl rfl (by decide) (fun a' h' W' => sm_hi (q := u % 100000000 % 10000 % 100) (by omega) rfl rfl (h'.2 51 _ rfl) (by kernel_rfl)) (by kernel_rfl) (by kernel_rfl) (by kernel_rfl) (by kernel_rfl) (by decide) rfl rfl sE (fun a29 W29 h29 d29 M29 G29 => ?_)
  replace d29 := d29.trans d28
  clear h28 d28
  replace M29 : Mw (bn [g]) [⟨g, 59, 32, (upm (upm m 8 (.int .u8 ((48 + (u % 100000000 % 10000 % 100) % 10 : Nat) : Int))) 7 (.int .u8 ((48 + (u % 100000000 % 10000 % 100) / 10 : Nat) : Int)))⟩] W29 := M29
  replace F := F.trans G29
  clear M0
  show Code.wp _ _ _ _ _
  refine wp_seq ?_
  refine reg_pair (N := 167) (T := TT) (L := [⟨g, 59, 32, (upm (upm m 8 (.int .u8 ((48 + (u % 100000000 % 10000 % 100) % 10 : Nat) : Int))) 7 (.int .u8 ((48 + (u % 100000000 % 10000 % 100) / 10 : Nat) : Int)))⟩]) (E := [(0, .s 0 0 9 32), (1, vu ((u / 100000000 : Nat) : Int)), (4, vi 9), (8, vw ((2 * (u % 100000000 % 10000 / 100) : Nat) : Int)), (10, vw ((2 * (u % 100000000 / 10000 / 100) : Nat) : Int)), (11, vw ((2 * (u % 100000000 / 10000 % 100) : Nat) : Int)), (20, vb true)]) (E1 := [(62, vw (IntKind.u32.wrap (((2 * (u % 100000000 % 10000 / 100) : Nat) : Int) + 1))), (61, vw ((2 * (u % 100000000 % 10000 / 100) : Nat) : Int)), (60, vi 5), (59, vi 9), (58, .s 0 0 9 32), (57, vi 6), (56, vi 9), (55, .s 0 0 9 32), (0, .s 0 0 9 32), (1, vu ((u / 100000000 : Nat) : Int)), (4, vi 9), (8, vw ((2 * (u % 100000000 % 10000 / 100) : Nat) : Int)), (10, vw ((2 * (u % 100000000 / 10000 / 100) : Nat) : Int)), (11, vw ((2 * (u % 100000000 / 10000 % 100) : Nat) : Int)), (20, vb true)]) (E2 := [(64, vw ((2 * (u % 100000000 % 10000 / 100) : Nat) : Int)), (63, vo ((48 + (u % 100000000 % 10000 / 100) % 10 : Nat) : Int)), (62, vw (IntKind.u32.wrap (((2 * (u % 100000000 % 10000 / 100) : Nat) : Int) + 1))), (61, vw ((2 * (u % 100000000 % 10000 / 100) : Nat) : Int)), (60, vi 5), (59, vi 9), (58, .s 0 0 9 32), (57, vi 6), (56, vi 9), (55, .s 0 0 9 32), (0, .s 0 0 9 32), (1, vu ((u / 100000000 : Nat) : Int)), (4, vi 9), (8, vw ((2 * (u % 100000000 % 10000 / 100) : Nat) : Int)), (10, vw ((2 * (u % 100000000 / 10000 / 100) : Nat) : Int)), (11, vw ((2 * (u % 100000000 / 10000 % 100) : Nat) : Int)), (20, vb true)]) (E3 := [(66, .p 0 6), (65, vo ((48 + (u % 100000000 % 10000 / 100) / 10 : Nat) : Int)), (64, vw ((2 * (u % 100000000 % 10000 / 100) : Nat) : Int)), (63, vo ((48 + (u % 100000000 % 10000 / 100) % 10 : Nat) : Int)), (62, vw (IntKind.u32.wrap (((2 * (u % 100000000 % 10000 / 100) : Nat) : Int) + 1))), (61, vw ((2 * (u % 100000000 % 10000 / 100) : Nat) : Int)), (60, vi 5), (59, vi 9), (58, .s 0 0 9 32), (57, vi 6), (56, vi 9), (55, .s 0 0 9 32), (0, .s 0 0 9 32), (1, vu ((u / 100000000 : Nat) : Int)), (4, vi 9), (8, vw ((2 * (u % 100000000 % 10000 / 100) : Nat) : Int)), (10, vw ((2 * (u % 100000000 / 10000 / 100) : Nat) : Int)), (11, vw ((2 * (u % 100000000 / 10000 % 100) : Nat) : Int)), (20, vb true)]) (E4 := [(0, .s 0 0 9 32), (1, vu ((u / 100000000 : Nat) : Int)), (4, vi 9), (10, vw ((2 * (u % 100000000 / 10000 / 100) : Nat) : Int)), (11, vw ((2 * (u % 100000000 / 10000 % 100) : Nat) : Int)), (20, vb true)]) (E5 := [(67, .p 0 5), (66, .p 0 6), (65, vo ((48 + (u % 100000000 % 10000 / 100) / 10 : Nat) : Int)), (64, vw ((2 * (u % 100000000 % 10000 / 100) : Nat) : Int)), (63, vo ((48 + (u % 100000000 % 10000 / 100) % 10 : Nat) : Int)), (62, vw (IntKind.u32.wrap (((2 * (u % 100000000 % 10000 / 100) : Nat) : Int) + 1))), (61, vw ((2 * (u % 100000000 % 10000 / 100) : Nat) : Int)), (60, vi 5), (59, vi 9), (58, .s 0 0 9 32), (57, vi 6), (56, vi 9), (55, .s 0 0 9 32), (0, .s 0 0 9 32), (1, vu ((u / 100000000 : Nat) : Int)), (4, vi 9), (8, vw ((2 * (u % 100000000 % 10000 / 100) : Nat) : Int)), (10, vw ((2 * (u % 100000000 / 10000 / 100) : Nat) : Int)), (11, vw ((2 * (u % 100000000 / 10000 % 100) : Nat) : Int)), (20, vb true)]) (k := 0) (i := 6) (j := 5) (d8 := 63) (d10 := 65) (va := .int .u8 ((48 + (u % 100000000 % 10000 / 100) % 10 : Nat) : Int)) (vb := .int .u8 ((48 + (u % 100000000 % 10000 / 100) / 10 : Nat) : Int)) (by kernel_rfl) tabOk h29 M29 rfl (by kernel_rfl) (fun _ _ _ _ hd h => And.intro (hd.trans (And.left h)) (And.right h)) (by kernel_rfl) rfl rfl rfl (by decide) (fun a' h' W' => sm_lo (q := u % 100000000 % 10000 / 100) (by omega) rfl rfl (h'.2 62 _ rfl) (by kernel_rfl)) (by kernel_rfl) rfl rfl rfl (by decide) (fun a' h' W' => sm_hi (q := u % 100000000 % 10000 / 100) (by omega) rfl rfl (h'.2 64 _ rfl) (by kernel_rfl)) (by kernel_rfl) (by kernel_rfl) (by kernel_rfl) (by kernel_rfl) (by decide) rfl rfl sE (fun a30 W30 h30 d30 M30 G30 => ?_)
  replace d30 := d30.trans d29
  clear h29 d29
  replace M30 : Mw (bn [g]) [⟨g, 59, 32, (upm (upm (upm (upm m 8 (.int .u8 ((48 + (u % 100000000 % 10000 % 100) % 10 : Nat) : Int))) 7 (.int .u8 ((48 + (u % 100000000 % 10000 % 100) / 10 : Nat) : Int))) 6 (.int .u8 ((48 + (u % 100000000 % 10000 / 100) % 10 : Nat) : Int))) 5 (.int .u8 ((48 + (u % 100000000 % 10000 / 100) / 10 : Nat) : Int)))⟩] W30 := M30
  replace F := F.trans G30
  clear M29
  show Code.wp _ _ _ _ _
  refine wp_seq ?_
  refine reg_pair (N := 167) (T := TT) (L := [⟨g, 59, 32, (upm (upm (upm (upm m 8 (.int .u8 ((48 + (u % 100000000 % 10000 % 100) % 10 : Nat) : Int))) 7 (.int .u8 ((48 + (u % 100000000 % 10000 % 100) / 10 : Nat) : Int))) 6 (.int .u8 ((48 + (u % 100000000 % 10000 / 100) % 10 : Nat) : Int))) 5 (.int .u8 ((48 + (u % 100000000 % 10000 / 100) / 10 : Nat) : Int)))⟩]) (E := [(0, .s 0 0 9 32), (1, vu ((u / 100000000 : Nat) : Int)), (4, vi 9), (10, vw ((2 * (u % 100000000 / 10000 / 100) : Nat) : Int)), (11, vw ((2 * (u % 100000000 / 10000 % 100) : Nat) : Int)), (20, vb true)]) (E1 := [(75, vw (IntKind.u32.wrap (((2 * (u % 100000000 / 10000 % 100) : Nat) : Int) + 1))), (74, vw ((2 * (u % 100000000 / 10000 % 100) : Nat) : Int)), (73, vi 3), (72, vi 9), (71, .s 0 0 9 32), (70, vi 4), (69, vi 9), (68, .s 0 0 9 32), (0, .s 0 0 9 32), (1, vu ((u / 100000000 : Nat) : Int)), (4, vi 9), (10, vw ((2 * (u % 100000000 / 10000 / 100) : Nat) : Int)), (11, vw ((2 * (u % 100000000 / 10000 % 100) : Nat) : Int)), (20, vb true)]) (E2 := [(77, vw ((2 * (u % 100000000 / 10000 % 100) : Nat) : Int)), (76, vo ((48 + (u % 100000000 / 10000 % 100) % 10 : Nat) : Int)), (75, vw (IntKind.u32.wrap (((2 * (u % 100000000 / 10000 % 100) : Nat) : Int) + 1))), (74, vw ((2 * (u % 100000000 / 10000 % 100) : Nat) : Int)), (73, vi 3), (72, vi 9), (71, .s 0 0 9 32), (70, vi 4), (69, vi 9), (68, .s 0 0 9 32), (0, .s 0 0 9 32), (1, vu ((u / 100000000 : Nat) : Int)), (4, vi 9), (10, vw ((2 * (u % 100000000 / 10000 / 100) : Nat) : Int)), (11, vw ((2 * (u % 100000000 / 10000 % 100) : Nat) : Int)), (20, vb true)]) (E3 := [(79, .p 0 4), (78, vo ((48 + (u % 100000000 / 10000 % 100) / 10 : Nat) : Int)), (77, vw ((2 * (u % 100000000 / 10000 % 100) : Nat) : Int)), (76, vo ((48 + (u % 100000000 / 10000 % 100) % 10 : Nat) : Int)), (75, vw (IntKind.u32.wrap (((2 * (u % 100000000 / 10000 % 100) : Nat) : Int) + 1))), (74, vw ((2 * (u % 100000000 / 10000 % 100) : Nat) : Int)), (73, vi 3), (72, vi 9), (71, .s 0 0 9 32), (70, vi 4), (69, vi 9), (68, .s 0 0 9 32), (0, .s 0 0 9 32), (1, vu ((u / 100000000 : Nat) : Int)), (4, vi 9), (10, vw ((2 * (u % 100000000 / 10000 / 100) : Nat) : Int)), (11, vw ((2 * (u % 100000000 / 10000 % 100) : Nat) : Int)), (20, vb true)]) (E4 := [(0, .s 0 0 9 32), (1, vu ((u / 100000000 : Nat) : Int)), (4, vi 9), (10, vw ((2 * (u % 100000000 / 10000 / 100) : Nat) : Int)), (20, vb true)]) (E5 := [(80, .p 0 3), (79, .p 0 4), (78, vo ((48 + (u % 100000000 / 10000 % 100) / 10 : Nat) : Int)), (77, vw ((2 * (u % 100000000 / 10000 % 100) : Nat) : Int)), (76, vo ((48 + (u % 100000000 / 10000 % 100) % 10 : Nat) : Int)), (75, vw (IntKind.u32.wrap (((2 * (u % 100000000 / 10000 % 100) : Nat) : Int) + 1))), (74, vw ((2 * (u % 100000000 / 10000 % 100) : Nat) : Int)), (73, vi 3), (72, vi 9), (71, .s 0 0 9 32), (70, vi 4), (69, vi 9), (68, .s 0 0 9 32), (0, .s 0 0 9 32), (1, vu ((u / 100000000 : Nat) : Int)), (4, vi 9), (10, vw ((2 * (u % 100000000 / 10000 / 100) : Nat) : Int)), (11, vw ((2 * (u % 100000000 / 10000 % 100) : Nat) : Int)), (20, vb true)]) (k := 0) (i := 4) (j := 3) (d8 := 76) (d10 := 78) (va := .int .u8 ((48 + (u % 100000000 / 10000 % 100) % 10 : Nat) : Int)) (vb := .int .u8 ((48 + (u % 100000000 / 10000 % 100) / 10 : Nat) : Int)) (by kernel_rfl) tabOk h30 M30 rfl (by kernel_rfl) (fun _ _ _ _ hd h => And.intro (hd.trans (And.left h)) (And.right h)) (by kernel_rfl) rfl rfl rfl (by decide) (fun a' h' W' => sm_lo (q := u % 100000000 / 10000 % 100) (by omega) rfl rfl (h'.2 75 _ rfl) (by kernel_rfl)) (by kernel_rfl) rfl rfl rfl (by decide) (fun a' h' W' => sm_hi (q := u % 100000000 / 10000 % 100) (by omega) rfl rfl (h'.2 77 _ rfl) (by kernel_rfl)) (by kernel_rfl) (by kernel_rfl) (by kernel_rfl) (by kernel_rfl) (by decide) rfl rfl sE (fun a31 W31 h31 d31 M31 G31 => ?_)
  replace d31 := d31.trans d30
  clear h30 d30
  replace M31 : Mw (bn [g]) [⟨g, 59, 32, (upm (upm (upm (upm (upm (upm m 8 (.int .u8 ((48 + (u % 100000000 % 10000 % 100) % 10 : Nat) : Int))) 7 (.int .u8 ((48 + (u % 100000000 % 10000 % 100) / 10 : Nat) : Int))) 6 (.int .u8 ((48 + (u % 100000000 % 10000 / 100) % 10 : Nat) : Int))) 5 (.int .u8 ((48 + (u % 100000000 % 10000 / 100) / 10 : Nat) : Int))) 4 (.int .u8 ((48 + (u % 100000000 / 10000 % 100) % 10 : Nat) : Int))) 3 (.int .u8 ((48 + (u % 100000000 / 10000 % 100) / 10 : Nat) : Int)))⟩] W31 := M31
  replace F := F.trans G31
  clear M30
  show Code.wp _ _ _ _ _
  refine wp_seq ?_
  refine reg_pair (N := 167) (T := TT) (L := [⟨g, 59, 32, (upm (upm (upm (upm (upm (upm m 8 (.int .u8 ((48 + (u % 100000000 % 10000 % 100) % 10 : Nat) : Int))) 7 (.int .u8 ((48 + (u % 100000000 % 10000 % 100) / 10 : Nat) : Int))) 6 (.int .u8 ((48 + (u % 100000000 % 10000 / 100) % 10 : Nat) : Int))) 5 (.int .u8 ((48 + (u % 100000000 % 10000 / 100) / 10 : Nat) : Int))) 4 (.int .u8 ((48 + (u % 100000000 / 10000 % 100) % 10 : Nat) : Int))) 3 (.int .u8 ((48 + (u % 100000000 / 10000 % 100) / 10 : Nat) : Int)))⟩]) (E := [(0, .s 0 0 9 32), (1, vu ((u / 100000000 : Nat) : Int)), (4, vi 9), (10, vw ((2 * (u % 100000000 / 10000 / 100) : Nat) : Int)), (20, vb true)]) (E1 := [(88, vw (IntKind.u32.wrap (((2 * (u % 100000000 / 10000 / 100) : Nat) : Int) + 1))), (87, vw ((2 * (u % 100000000 / 10000 / 100) : Nat) : Int)), (86, vi 1), (85, vi 9), (84, .s 0 0 9 32), (83, vi 2), (82, vi 9), (81, .s 0 0 9 32), (0, .s 0 0 9 32), (1, vu ((u / 100000000 : Nat) : Int)), (4, vi 9), (10, vw ((2 * (u % 100000000 / 10000 / 100) : Nat) : Int)), (20, vb true)]) (E2 := [(90, vw ((2 * (u % 100000000 / 10000 / 100) : Nat) : Int)), (89, vo ((48 + (u % 100000000 / 10000 / 100) % 10 : Nat) : Int)), (88, vw (IntKind.u32.wrap (((2 * (u % 100000000 / 10000 / 100) : Nat) : Int) + 1))), (87, vw ((2 * (u % 100000000 / 10000 / 100) : Nat) : Int)), (86, vi 1), (85, vi 9), (84, .s 0 0 9 32), (83, vi 2), (82, vi 9), (81, .s 0 0 9 32), (0, .s 0 0 9 32), (1, vu ((u / 100000000 : Nat) : Int)), (4, vi 9), (10, vw ((2 * (u % 100000000 / 10000 / 100) : Nat) : Int)), (20, vb true)]) (E3 := [(92, .p 0 2), (91, vo ((48 + (u % 100000000 / 10000 / 100) / 10 : Nat) : Int)), (90, vw ((2 * (u % 100000000 / 10000 / 100) : Nat) : Int)), (89, vo ((48 + (u % 100000000 / 10000 / 100) % 10 : Nat) : Int)), (88, vw (IntKind.u32.wrap (((2 * (u % 100000000 / 10000 / 100) : Nat) : Int) + 1))), (87, vw ((2 * (u % 100000000 / 10000 / 100) : Nat) : Int)), (86, vi 1), (85, vi 9), (84, .s 0 0 9 32), (83, vi 2), (82, vi 9), (81, .s 0 0 9 32), (0, .s 0 0 9 32), (1, vu ((u / 100000000 : Nat) : Int)), (4, vi 9), (10, vw ((2 * (u % 100000000 / 10000 / 100) : Nat) : Int)), (20, vb true)]) (E4 := [(0, .s 0 0 9 32), (1, vu ((u / 100000000 : Nat) : Int)), (4, vi 9), (20, vb true)]) (E5 := [(93, .p 0 1), (92, .p 0 2), (91, vo ((48 + (u % 100000000 / 10000 / 100) / 10 : Nat) : Int)), (90, vw ((2 * (u % 100000000 / 10000 / 100) : Nat) : Int)), (89, vo ((48 + (u % 100000000 / 10000 / 100) % 10 : Nat) : Int)), (88, vw (IntKind.u32.wrap (((2 * (u % 100000000 / 10000 / 100) : Nat) : Int) + 1))), (87, vw ((2 * (u % 100000000 / 10000 / 100) : Nat) : Int)), (86, vi 1), (85, vi 9), (84, .s 0 0 9 32), (83, vi 2), (82, vi 9), (81, .s 0 0 9 32), (0, .s 0 0 9 32), (1, vu ((u / 100000000 : Nat) : Int)), (4, vi 9), (10, vw ((2 * (u % 100000000 / 10000 / 100) : Nat) : Int)), (20, vb true)]) (k := 0) (i := 2) (j := 1) (d8 := 89) (d10 := 91) (va := .int .u8 ((48 + (u % 100000000 / 10000 / 100) % 10 : Nat) : Int)) (vb := .int .u8 ((48 + (u % 100000000 / 10000 / 100) / 10 : Nat) : Int)) (by kernel_rfl) tabOk h31 M31 rfl (by kernel_rfl) (fun _ _ _ _ hd h => And.intro (hd.trans (And.left h)) (And.right h)) (by kernel_rfl) rfl rfl rfl (by decide) (fun a' h' W' => sm_lo (q := u % 100000000 / 10000 / 100) (by omega) rfl rfl (h'.2 88 _ rfl) (by kernel_rfl)) (by kernel_rfl) rfl rfl rfl (by decide) (fun a' h' W' => sm_hi (q := u % 100000000 / 10000 / 100) (by omega) rfl rfl (h'.2 90 _ rfl) (by kernel_rfl)) (by kernel_rfl) (by kernel_rfl) (by kernel_rfl) (by kernel_rfl) (by decide) rfl rfl sE (fun a32 W32 h32 d32 M32 G32 => ?_)
  replace d32 := d32.trans d31
  clear h31 d31
  replace M32 : Mw (bn [g]) [⟨g, 59, 32, (upm (upm (upm (upm (upm (upm (upm (upm m 8 (.int .u8 ((48 + (u % 100000000 % 10000 % 100) % 10 : Nat) : Int))) 7 (.int .u8 ((48 + (u % 100000000 % 10000 % 100) / 10 : Nat) : Int))) 6 (.int .u8 ((48 + (u % 100000000 % 10000 / 100) % 10 : Nat) : Int))) 5 (.int .u8 ((48 + (u % 100000000 % 10000 / 100) / 10 : Nat) : Int))) 4 (.int .u8 ((48 + (u % 100000000 / 10000 % 100) % 10 : Nat) : Int))) 3 (.int .u8 ((48 + (u % 100000000 / 10000 % 100) / 10 : Nat) : Int))) 2 (.int .u8 ((48 + (u % 100000000 / 10000 / 100) % 10 : Nat) : Int))) 1 (.int .u8 ((48 + (u % 100000000 / 10000 / 100) / 10 : Nat) : Int)))⟩] W32 := M32
  replace F := F.trans G32
  clear M31
  show Code.wp _ _ _ _ _
  refine wp_region ?_
  refine oP 167 [] [0, 1, 2] [(0, .s 0 0 9 32), (1, vu ((u / 100000000 : Nat) : Int)), (4, vi 1), (20, vb true)] h32 d32 (fun a33 h33 d33 => ?_)
  clear h32 d32
  show Code.rounds _ _ _ _ _ _
  rw [rounds_succ]
  refine wp_seq ?_
  refine wp_seq (wp_region ?_)
  refine oP 167 [] [0, 1] [(0, .s 0 0 9 32), (1, vu ((u / 100000000 : Nat) : Int)), (4, vi 1), (20, vb false)] h33 d33 (fun a34 h34 d34 => ?_)
  clear h33 d33
  show Code.wp _ _ _ _ _
  refine wp_cond_false (h34.2 20 _ rfl) ?_
  refine wp_exit ?_
  refine then_exit (then_exit (exit_in ?_))
  show Code.wp _ _ _ _ _
  refine wp_seq (wp_region ?_)
  refine oP 167 [1, 2] [0] [(0, .s 0 0 9 32), (1, vu ((u / 100000000 : Nat) : Int)), (4, vi 1), (20, vb false), (96, vu ((u / 100000000 : Nat) : Int))] h34 d34 (fun a35 h35 d35 => ?_)
  clear h34 d34
  refine oP 167 [2] [1] [(0, .s 0 0 9 32), (1, vu ((u / 100000000 : Nat) : Int)), (4, vi 1), (20, vb false), (96, vu ((u / 100000000 : Nat) : Int)), (97, vw (IntKind.u32.wrap (((u / 100000000 : Nat) : Int))))] h35 d35 (fun a36 h36 d36 => ?_)
  clear h35 d35
  rw [show (IntKind.u32.wrap (((u / 100000000 : Nat) : Int))) = ((u / 100000000 : Nat) : Int) from n_c32 (u / 100000000) (by omega)] at h36
  refine oP 167 [] [2] [(0, .s 0 0 9 32), (1, vu ((u / 100000000 : Nat) : Int)), (4, vi 1), (12, vw ((u / 100000000 : Nat) : Int)), (20, vb false)] h36 d36 (fun a37 h37 d37 => ?_)
  clear h36 d36
  show Code.wp _ _ _ _ _
  refine wp_seq ?_
  refine wp_seq (wp_region ?_)
  refine oP 167 [] [0, 1] [(0, .s 0 0 9 32), (1, vu ((u / 100000000 : Nat) : Int)), (4, vi 1), (12, vw ((u / 100000000 : Nat) : Int)), (20, vb false), (99, vb false)] h37 d37 (fun a38 h38 d38 => ?_)
  clear h37 d37
  show Code.wp _ _ _ _ _
  refine wp_cond_false (h38.2 99 _ rfl) ?_
  refine wp_skip ?_
  show Code.wp _ _ _ _ _
  refine wp_seq ?_
  refine wp_seq (wp_region ?_)
  refine oP 167 [] [0, 1] [(0, .s 0 0 9 32), (1, vu ((u / 100000000 : Nat) : Int)), (4, vi 1), (12, vw ((u / 100000000 : Nat) : Int)), (20, vb false), (99, vb false), (139, vb false)] h38 d38 (fun a39 h39 d39 => ?_)
  clear h38 d38
  show Code.wp _ _ _ _ _
  refine wp_cond_false (h39.2 139 _ rfl) ?_
  refine wp_skip ?_
  show Code.wp _ _ _ _ _
  refine wp_seq (wp_region ?_)
  refine oP 167 [] [0, 1] [(0, .s 0 0 9 32), (1, vu ((u / 100000000 : Nat) : Int)), (4, vi 1), (12, vw ((u / 100000000 : Nat) : Int)), (20, vb false), (99, vb false), (139, vb false), (161, vb true)] h39 d39 (fun a40 h40 d40 => ?_)
  clear h39 d39
  show Code.wp _ _ _ _ _
  refine wp_cond_true (h40.2 161 _ rfl) ?_
  refine wp_region ?_
  refine oP 167 [4, 5] [0, 1, 2, 3] [(0, .s 0 0 9 32), (1, vu ((u / 100000000 : Nat) : Int)), (4, vi 1), (12, vw ((u / 100000000 : Nat) : Int)), (20, vb false), (99, vb false), (139, vb false), (161, vb true), (162, .s 0 0 9 32), (163, vw ((u / 100000000 : Nat) : Int)), (164, vw (IntKind.u32.wrap (48 + ((u / 100000000 : Nat) : Int)))), (165, vo (IntKind.u8.wrap ((IntKind.u32.wrap (48 + ((u / 100000000 : Nat) : Int))))))] h40 d40 (fun a41 h41 d41 => ?_)
  clear h40 d40
  rw [show (IntKind.u8.wrap ((IntKind.u32.wrap (48 + ((u / 100000000 : Nat) : Int))))) = ((48 + (u / 100000000) : Nat) : Int) from n_c8 (u / 100000000) (by omega)] at h41
  refine oP 167 [5] [4] [(0, .s 0 0 9 32), (1, vu ((u / 100000000 : Nat) : Int)), (4, vi 1), (12, vw ((u / 100000000 : Nat) : Int)), (20, vb false), (99, vb false), (139, vb false), (161, vb true), (162, .s 0 0 9 32), (163, vw ((u / 100000000 : Nat) : Int)), (164, vw (IntKind.u32.wrap (48 + ((u / 100000000 : Nat) : Int)))), (165, vo ((48 + (u / 100000000) : Nat) : Int)), (166, .p 0 0)] h41 d41 (fun a42 h42 d42 => ?_)
  clear h41 d41
  refine storeM_ops (N := 167) (T := TT) (i := 5) (k := 0) (ix := 0) (u := .int .u8 ((48 + (u / 100000000) : Nat) : Int)) (l := []) tabOk h42 M32 (by kernel_rfl) rfl (fun W43 M43 G43 => ?_)
  replace M43 : Mw (bn [g]) [⟨g, 59, 32, (upm (upm (upm (upm (upm (upm (upm (upm (upm m 8 (.int .u8 ((48 + (u % 100000000 % 10000 % 100) % 10 : Nat) : Int))) 7 (.int .u8 ((48 + (u % 100000000 % 10000 % 100) / 10 : Nat) : Int))) 6 (.int .u8 ((48 + (u % 100000000 % 10000 / 100) % 10 : Nat) : Int))) 5 (.int .u8 ((48 + (u % 100000000 % 10000 / 100) / 10 : Nat) : Int))) 4 (.int .u8 ((48 + (u % 100000000 / 10000 % 100) % 10 : Nat) : Int))) 3 (.int .u8 ((48 + (u % 100000000 / 10000 % 100) / 10 : Nat) : Int))) 2 (.int .u8 ((48 + (u % 100000000 / 10000 / 100) % 10 : Nat) : Int))) 1 (.int .u8 ((48 + (u % 100000000 / 10000 / 100) / 10 : Nat) : Int))) 0 (.int .u8 ((48 + (u / 100000000) : Nat) : Int)))⟩] W43 := M43
  have h43 := h42
  have d43 := d42
  clear h42 d42 M32
  replace F := F.trans G43
  refine ⟨d43, _, results_none rfl _ _ _, rfl, ?_, F⟩
  refine Bl.In.eq (M43.2.get (k := 0) rfl) (fun i hi => ?_)
  by_cases q0 : i = 0
  · subst q0
    show Value.int .u8 ((48 + (u / 100000000) : Nat) : Int) = Value.int .u8 ((48 + u / 100000000 % 10 : Nat) : Int)
    rw [show 48 + (u / 100000000) = 48 + u / 100000000 % 10 from by omega]
  by_cases q1 : i = 1
  · subst q1
    show Value.int .u8 ((48 + (u % 100000000 / 10000 / 100) / 10 : Nat) : Int) = Value.int .u8 ((48 + u / 10000000 % 10 : Nat) : Int)
    rw [show 48 + (u % 100000000 / 10000 / 100) / 10 = 48 + u / 10000000 % 10 from by omega]
  by_cases q2 : i = 2
  · subst q2
    show Value.int .u8 ((48 + (u % 100000000 / 10000 / 100) % 10 : Nat) : Int) = Value.int .u8 ((48 + u / 1000000 % 10 : Nat) : Int)
    rw [show 48 + (u % 100000000 / 10000 / 100) % 10 = 48 + u / 1000000 % 10 from by omega]
  by_cases q3 : i = 3
  · subst q3
    show Value.int .u8 ((48 + (u % 100000000 / 10000 % 100) / 10 : Nat) : Int) = Value.int .u8 ((48 + u / 100000 % 10 : Nat) : Int)
    rw [show 48 + (u % 100000000 / 10000 % 100) / 10 = 48 + u / 100000 % 10 from by omega]
  by_cases q4 : i = 4
  · subst q4
    show Value.int .u8 ((48 + (u % 100000000 / 10000 % 100) % 10 : Nat) : Int) = Value.int .u8 ((48 + u / 10000 % 10 : Nat) : Int)
    rw [show 48 + (u % 100000000 / 10000 % 100) % 10 = 48 + u / 10000 % 10 from by omega]
  by_cases q5 : i = 5
  · subst q5
    show Value.int .u8 ((48 + (u % 100000000 % 10000 / 100) / 10 : Nat) : Int) = Value.int .u8 ((48 + u / 1000 % 10 : Nat) : Int)
    rw [show 48 + (u % 100000000 % 10000 / 100) / 10 = 48 + u / 1000 % 10 from by omega]
  by_cases q6 : i = 6
  · subst q6
    show Value.int .u8 ((48 + (u % 100000000 % 10000 / 100) % 10 : Nat) : Int) = Value.int .u8 ((48 + u / 100 % 10 : Nat) : Int)
    rw [show 48 + (u % 100000000 % 10000 / 100) % 10 = 48 + u / 100 % 10 from by omega]
  by_cases q7 : i = 7
  · subst q7
    show Value.int .u8 ((48 + (u % 100000000 % 10000 % 100) / 10 : Nat) : Int) = Value.int .u8 ((48 + u / 10 % 10 : Nat) : Int)
    rw [show 48 + (u % 100000000 % 10000 % 100) / 10 = 48 + u / 10 % 10 from by omega]
  by_cases q8 : i = 8
  · subst q8
    show Value.int .u8 ((48 + (u % 100000000 % 10000 % 100) % 10 : Nat) : Int) = Value.int .u8 ((48 + u / 1 % 10 : Nat) : Int)
    rw [show 48 + (u % 100000000 % 10000 % 100) % 10 = 48 + u / 1 % 10 from by omega]
  unfold dgM
  rw [if_neg (by omega)]
  show (upm (upm (upm (upm (upm (upm (upm (upm (upm m 8 (.int .u8 ((48 + (u % 100000000 % 10000 % 100) % 10 : Nat) : Int))) 7 (.int .u8 ((48 + (u % 100000000 % 10000 % 100) / 10 : Nat) : Int))) 6 (.int .u8 ((48 + (u % 100000000 % 10000 / 100) % 10 : Nat) : Int))) 5 (.int .u8 ((48 + (u % 100000000 % 10000 / 100) / 10 : Nat) : Int))) 4 (.int .u8 ((48 + (u % 100000000 / 10000 % 100) % 10 : Nat) : Int))) 3 (.int .u8 ((48 + (u % 100000000 / 10000 % 100) / 10 : Nat) : Int))) 2 (.int .u8 ((48 + (u % 100000000 / 10000 / 100) % 10 : Nat) : Int))) 1 (.int .u8 ((48 + (u % 100000000 / 10000 / 100) / 10 : Nat) : Int))) 0 (.int .u8 ((48 + (u / 100000000) : Nat) : Int))) i = _
  unfold upm
  repeat rw [if_neg (by omega)]
end Go.Proofs.YtmgnffklmdhooaaDoor.PAll
namespace Go.Proofs.YtmgnffklmdhooaaDoor.PAll
open Go.RowKit Go.Proofs.YtmgnffklmdhooaaDoorW.PrintWords Go.Proofs.YtmgnffklmdhooaaDoorW.PrintLast Go.Proofs.YtmgnffklmdhooaaDoorW.PrintMore
set_option linter.unusedVariables false
set_option linter.unusedSimpArgs false
/-- How many octets are left without the noughts at the end. -/
def strip (c : Nat → Int) : Nat → Nat
  | 0 => 0
  | k + 1 => if c k = 48 then strip c k else k + 1
noncomputable def sdBody : Code := match Tryd.f36.body with
  | some (.seq _ (.seq (.seq _ (.cond _ (.seq _ (.seq _ (.block _ (.loop c)))) _)) _)) => c
  | _ => .skip
theorem i_pred (k : Nat) (h : k < 1000) : IntKind.i64.wrap (((k + 1 : Nat) : Int) - 1) = ((k : Nat) : Int) := by
  rw [IntKind.wrap_i64]
  omega
set_option maxHeartbeats 8000000 in
set_option maxRecDepth 100000 in
theorem sd_loop {Q : Exit → Act → World → Prop} (g n : Nat) (dp : Int) (c : Nat → Int) (w : World) (hn : n ≤ 32) (hc : ∀ i, i < n → w.cell? ⟨g, i, none⟩ = some (.int .u8 (c i))) : ∀ k, k ≤ n → ∀ a0, Has 36 (bn [g]) [(0, .s 0 0 32 32), (3, vi ↑k), (8, vi dp)] a0 → a0.defers = [] →
    (∀ a', Has 36 (bn [g]) [(0, .s 0 0 32 32), (3, vi ((strip c k : Nat) : Int)), (8, vi dp)] a' → a'.defers = [] → Q (.exit 0) a' w) → Code.rounds Tryd.prog sdBody Q (k + 1) a0 w := by
  intro k
  induction k with
  | zero =>
    intro hk a0 h0 d0 hex
    replace h0 : Has 36 (bn [g]) [(0, .s 0 0 32 32), (3, vi 0), (8, vi dp)] a0 := h0
    replace hex : ∀ a', Has 36 (bn [g]) [(0, .s 0 0 32 32), (3, vi 0), (8, vi dp)] a' → a'.defers = [] → Q (.exit 0) a' w := hex
    rw [rounds_succ]
    refine wp_seq ?_
    refine wp_seq (wp_region ?_)
    refine oP 36 [3, 4, 5, 6, 7, 8, 9] [0, 1, 2] [(0, .s 0 0 32 32), (3, vi 0), (8, vi dp), (22, vi 0), (23, vb false), (24, vb false)] h0 d0 (fun a1 h1 d1 => ?_)
    clear h0 d0
    refine skip_ops (N := 36) (i := 3) (d := 25) (j := 2) (dj := 24) (b := true) (b' := false) (l := [4, 5, 6, 7, 8, 9]) rfl rfl rfl rfl (by decide) rfl (by decide) h1 (fun a2 h2 d2 => ?_)
    replace d2 := d2.trans d1
    clear h1 d1
    refine skip_ops (N := 36) (i := 4) (d := 26) (j := 2) (dj := 24) (b := true) (b' := false) (l := [5, 6, 7, 8, 9]) rfl rfl rfl rfl (by decide) rfl (by decide) h2 (fun a3 h3 d3 => ?_)
    replace d3 := d3.trans d2
    clear h2 d2
    refine skip_ops (N := 36) (i := 5) (d := 27) (j := 2) (dj := 24) (b := true) (b' := false) (l := [6, 7, 8, 9]) rfl rfl rfl rfl (by decide) rfl (by decide) h3 (fun a4 h4 d4 => ?_)
    replace d4 := d4.trans d3
    clear h3 d3
    refine skip_ops (N := 36) (i := 6) (d := 28) (j := 2) (dj := 24) (b := true) (b' := false) (l := [7, 8, 9]) rfl rfl rfl rfl (by decide) rfl (by decide) h4 (fun a5 h5 d5 => ?_)
    replace d5 := d5.trans d4
    clear h4 d4
    refine skip_ops (N := 36) (i := 7) (d := 29) (j := 2) (dj := 24) (b := true) (b' := false) (l := [8, 9]) rfl rfl rfl rfl (by decide) rfl (by decide) h5 (fun a6 h6 d6 => ?_)
    replace d6 := d6.trans d5
    clear h5 d5
    refine skip_ops (N := 36) (i := 8) (d := 30) (j := 2) (dj := 24) (b := true) (b' := false) (l := [9]) rfl rfl rfl rfl (by decide) rfl (by decide) h6 (fun a7 h7 d7 => ?_)
    replace d7 := d7.trans d6
    clear h6 d6
    refine gW (s := .v (Value.bool false)) 36 [] h7 d7 rfl (want_ rfl) rfl (by decide) (op_pickF rfl (h7.2 24 _ rfl) rfl) (fun a8 h8 d8 => ?_)
    clear h7 d7
    show Code.wp _ _ _ _ _
    refine wp_cond_false (h8.2 31 _ rfl) ?_
    refine wp_exit ?_
    refine then_exit (then_exit ?_)
    exact hex a8 (sub_ok h8 sE) d8
  | succ k ih =>
    intro hk a0 h0 d0 hex
    rw [rounds_succ]
    refine wp_seq ?_
    refine wp_seq (wp_region ?_)
    refine oP 36 [2, 3, 4, 5, 6, 7, 8, 9] [0, 1] [(0, .s 0 0 32 32), (3, vi ((k + 1 : Nat) : Int)), (8, vi dp), (22, vi ((k + 1 : Nat) : Int)), (23, vb (decide ((((k + 1 : Nat) : Int) : Int) > 0)))] h0 d0 (fun a1 h1 d1 => ?_)
    clear h0 d0
    rw [show (decide ((((k + 1 : Nat) : Int) : Int) > 0)) = true from decide_eq_true (by omega)] at h1
    refine oP 36 [3, 4, 5, 6, 7, 8, 9] [2] [(0, .s 0 0 32 32), (3, vi ((k + 1 : Nat) : Int)), (8, vi dp), (22, vi ((k + 1 : Nat) : Int)), (23, vb true), (24, vb true)] h1 d1 (fun a2 h2 d2 => ?_)
    clear h1 d1
    refine guard_ops (N := 36) (T := TT) (M := (fun _ _ => none)) tabOk (i := 3) (d := 25) (j := 2) (dj := 24) (b := true) (s := .s 0 0 32 32) (l := [4, 5, 6, 7, 8, 9]) (fun _ _ _ h => by cases h) rfl rfl rfl rfl rfl (by decide) h2 (by kernel_rfl) (fun a3 h3 d3 => ?_)
    replace d3 := d3.trans d2
    clear h2 d2
    refine guard_ops (N := 36) (T := TT) (M := (fun _ _ => none)) tabOk (i := 4) (d := 26) (j := 2) (dj := 24) (b := true) (s := vi ((k + 1 : Nat) : Int)) (l := [5, 6, 7, 8, 9]) (fun _ _ _ h => by cases h) rfl rfl rfl rfl rfl (by decide) h3 (by kernel_rfl) (fun a4 h4 d4 => ?_)
    replace d4 := d4.trans d3
    clear h3 d3
    refine guard_ops (N := 36) (T := TT) (M := (fun _ _ => none)) tabOk (i := 5) (d := 27) (j := 2) (dj := 24) (b := true) (s := vi (IntKind.i64.wrap (((k + 1 : Nat) : Int) - 1))) (l := [6, 7, 8, 9]) (fun _ _ _ h => by cases h) rfl rfl rfl rfl rfl (by decide) h4 (by kernel_rfl) (fun a5 h5 d5 => ?_)
    replace d5 := d5.trans d4
    clear h4 d4
    rw [show (IntKind.i64.wrap (((k + 1 : Nat) : Int) - 1)) = ((k : Nat) : Int) from i_pred k (by omega)] at h5
    refine gW (s := .p 0 k) 36 [7, 8, 9] h5 d5 rfl (want_g h5 (j := 2) (d := 24) (b := true) rfl rfl rfl) rfl (by decide) ((op_indexE rfl (h5.2 25 _ rfl) (h5.2 27 _ rfl) Tryd.underlying51 Tryd.sizeOf5 (by omega)).trans (by rw [Nat.zero_add]; rfl)) (fun a6 h6 d6 => ?_)
    clear h5 d5
    refine gW (s := vo (c k)) 36 [8, 9] h6 d6 rfl (want_g h6 (j := 2) (d := 24) (b := true) rfl rfl rfl) rfl (by decide) (op_load rfl (h6.2 28 _ rfl) Tryd.isAgg5 (hc k (by omega))) (fun a7 h7 d7 => ?_)
    clear h6 d6
    refine guard_ops (N := 36) (T := TT) (M := (fun _ _ => none)) tabOk (i := 8) (d := 30) (j := 2) (dj := 24) (b := true) (s := vb (((c k) : Int) == 48)) (l := [9]) (fun _ _ _ h => by cases h) rfl rfl rfl rfl rfl (by decide) h7 (by kernel_rfl) (fun a8 h8 d8 => ?_)
    replace d8 := d8.trans d7
    clear h7 d7
    by_cases c1 : c k = 48
    · rw [show (((c k) : Int) == 48) = true from beq_iff_eq.mpr c1] at h8
      refine gW (s := vb true) 36 [] h8 d8 rfl (want_ rfl) rfl (by decide) (op_pickT rfl (h8.2 24 _ rfl) (h8.2 30 _ rfl)) (fun a9 h9 d9 => ?_)
      clear h8 d8
      show Code.wp _ _ _ _ _
      refine wp_cond_true (h9.2 31 _ rfl) ?_
      refine wp_skip ?_
      show Code.wp _ _ _ _ _
      refine wp_block ?_
      refine wp_region ?_
      refine oP 36 [2] [0, 1] [(0, .s 0 0 32 32), (3, vi ((k + 1 : Nat) : Int)), (8, vi dp), (32, vi ((k + 1 : Nat) : Int)), (33, vi (IntKind.i64.wrap (((k + 1 : Nat) : Int) - 1)))] h9 d9 (fun a10 h10 d10 => ?_)
      clear h9 d9
      rw [show (IntKind.i64.wrap (((k + 1 : Nat) : Int) - 1)) = ((k : Nat) : Int) from i_pred k (by omega)] at h10
      refine oP 36 [] [2] [(0, .s 0 0 32 32), (3, vi ↑k), (8, vi dp)] h10 d10 (fun a11 h11 d11 => ?_)
      clear h10 d10
      show Code.rounds _ _ _ _ _ _
      have e : strip c (k + 1) = strip c k := if_pos c1
      rw [e] at hex
      exact ih (by omega) a11 h11 d11 hex
    · rw [show (((c k) : Int) == 48) = false from beq_eq_false_iff_ne.mpr c1] at h8
      refine gW (s := vb false) 36 [] h8 d8 rfl (want_ rfl) rfl (by decide) (op_pickT rfl (h8.2 24 _ rfl) (h8.2 30 _ rfl)) (fun a9 h9 d9 => ?_)
      clear h8 d8
      show Code.wp _ _ _ _ _
      refine wp_cond_false (h9.2 31 _ rfl) ?_
      refine wp_exit ?_
      refine then_exit (then_exit ?_)
      have e : strip c (k + 1) = k + 1 := if_neg c1
      rw [e] at hex
      exact hex a9 (sub_ok h9 sE) d9
/-- The digits as octets. -/
def dgC (n u : Nat) (i : Nat) : Int := ((48 + u / 10 ^ (n - 1 - i) % 10 : Nat) : Int)
set_option maxHeartbeats 8000000 in
set_option maxRecDepth 100000 in
theorem set6_walk (g u : Nat) (p dp : Int) (m : Nat → Value) (hu : u < 1000000) (w : World) (hg : (⟨g, 59, 32, m⟩ : Bl).In w) (hdp : IntKind.i64.wrap (6 + p) = dp) :
    Calls Tryd.prog 36 #[.slice (some ⟨g, 0, none⟩) 32 32, .int .u64 (u : Int), .int .i64 p, .int .i64 6] w fun e' w' => e' = .returned (.tuple #[.int .i64 dp, .int .i64 ((strip (dgC 6 u) 6 : Nat) : Int)]) ∧ (⟨g, 59, 32, dgM m 6 u⟩ : Bl).In w' ∧ Fr [g] w w' := by
  refine calls_of_wp Tryd.func36 rfl ?_
  have h0 := has_four (β := bn [g]) (.s 0 0 32 32) (vu (u : Int)) (vi p) (vi 6) 32
  have d0 : (⟨#[.slice (some ⟨g, 0, none⟩) 32 32, .int .u64 (u : Int), .int .i64 p, .int .i64 6] ++ Array.replicate 32 undef, []⟩ : Act).defers = [] := rfl
  refine wp_seq (wp_region ?_)
  refine oP 36 [] [0, 1] [(0, .s 0 0 32 32), (1, vu (u : Int)), (2, vi p), (3, vi 6), (8, vi 0), (9, vi 0)] h0 d0 (fun a1 h1 d1 => ?_)
  clear h0 d0
  show Code.wp _ _ _ _ _
  refine wp_seq ?_
  refine wp_seq (wp_region ?_)
  refine oP 36 [] [0, 1, 2, 3] [(0, .s 0 0 32 32), (1, vu (u : Int)), (2, vi p), (3, vi 6), (8, vi 0), (9, vi 0), (13, vb true)] h1 d1 (fun a2 h2 d2 => ?_)
  clear h1 d1
  show Code.wp _ _ _ _ _
  refine wp_cond_true (h2.2 13 _ rfl) ?_
  refine wp_seq (wp_region ?_)
  refine oP 36 [2, 3, 4] [0, 1] [(0, .s 0 0 32 32), (1, vu (u : Int)), (2, vi p), (3, vi 6), (8, vi 0), (9, vi 0), (13, vb true), (14, .s 0 0 32 32), (15, vi 6)] h2 d2 (fun a3 h3 d3 => ?_)
  clear h2 d2
  refine gW (s := .s 0 0 6 32) 36 [3, 4] h3 d3 rfl (want_ rfl) rfl (by decide) ((op_slice rfl (by rw [show (Option.map a3.eval (some (Operand.tmp 15))) = some (.int .i64 (6 : Nat)) from congrArg some (h3.2 15 _ rfl), show a3.eval (Operand.tmp 14) = _ from h3.2 14 _ rfl]; exact sl_to _ g 0 32 32 6 (by decide) (by decide)))) (fun a4 h4 d4 => ?_)
  clear h3 d3
  refine oP 36 [4] [3] [(0, .s 0 0 32 32), (1, vu (u : Int)), (2, vi p), (3, vi 6), (8, vi 0), (9, vi 0), (13, vb true), (14, .s 0 0 32 32), (15, vi 6), (16, .s 0 0 6 32), (17, vu (u : Int))] h4 d4 (fun a5 h5 d5 => ?_)
  clear h4 d4
  refine callW_ops (N := 36) (i := 4) (d := 18) (f := 55) (args := [.s 0 0 6 32, vu (u : Int)]) (l := []) rfl (want_ rfl) rfl (by decide) h5 Tryd.func55 rfl rfl rfl (by kernel_rfl) (fun v W' => v = .tuple #[] ∧ (⟨g, 59, 32, dgM m 6 u⟩ : Bl).In W' ∧ Fr [g] w W') ((fmt6_walk g u m hu w hg).mono fun e' w' hh => ⟨_, hh.1, rfl, hh.2⟩) (fun v6 W6 a6 hR6 h6 d6 => ?_)
  replace d6 := d6.trans d5
  clear h5 d5
  obtain ⟨rfl, hg6, F6⟩ := hR6
  show Code.wp _ _ _ _ _
  refine wp_seq (wp_region ?_)
  refine oP 36 [3] [0, 1, 2] [(0, .s 0 0 32 32), (2, vi p), (3, vi 6), (8, vi 0), (9, vi 0), (13, vb true), (19, vi 6), (20, vi p), (21, vi (IntKind.i64.wrap (6 + p)))] h6 d6 (fun a7 h7 d7 => ?_)
  clear h6 d6
  rw [show (IntKind.i64.wrap (6 + p)) = dp from hdp] at h7
  refine oP 36 [] [3] [(0, .s 0 0 32 32), (3, vi 6), (8, vi dp), (9, vi 0), (13, vb true)] h7 d7 (fun a8 h8 d8 => ?_)
  clear h7 d7
  show Code.wp _ _ _ _ _
  have h8x := sub_ok (E := [(0, .s 0 0 32 32), (3, vi ((6 : Nat) : Int)), (8, vi dp)]) h8 sE
  refine wp_block ?_
  refine wp_loop_rounds 7 ?_
  refine sd_loop g 6 dp (dgC 6 u) W6 (by decide) (fun i hi => (hg6.cell i (show i < 32 by omega)).trans (congrArg some (if_pos hi))) 6 (Nat.le_refl _) a8 h8x d8 (fun b0 hb e0 => ?_)
  refine exit_in ?_
  show Code.wp _ _ _ _ _
  have h9 := hb
  have d9 := e0
  refine wp_seq (wp_region ?_)
  refine oP 36 [] [0, 1, 2, 3] [(0, .s 0 0 32 32), (3, vi ((strip (dgC 6 u) 6 : Nat) : Int)), (8, vi dp), (9, vi ((strip (dgC 6 u) 6 : Nat) : Int))] h9 d9 (fun a10 h10 d10 => ?_)
  clear h9 d9
  show Code.wp _ _ _ _ _
  refine wp_ret ?_
  exact ⟨d10, _, results_tmp2 rfl _ _ _, congrArg Ending.returned (tuple2 (h10.2 8 _ rfl) (h10.2 9 _ rfl)), hg6, F6⟩
set_option maxHeartbeats 8000000 in
set_option maxRecDepth 100000 in
theorem set7_walk (g u : Nat) (p dp : Int) (m : Nat → Value) (hu : u < 10000000) (w : World) (hg : (⟨g, 59, 32, m⟩ : Bl).In w) (hdp : IntKind.i64.wrap (7 + p) = dp) :
    Calls Tryd.prog 36 #[.slice (some ⟨g, 0, none⟩) 32 32, .int .u64 (u : Int), .int .i64 p, .int .i64 7] w fun e' w' => e' = .returned (.tuple #[.int .i64 dp, .int .i64 ((strip (dgC 7 u) 7 : Nat) : Int)]) ∧ (⟨g, 59, 32, dgM m 7 u⟩ : Bl).In w' ∧ Fr [g] w w' := by
  refine calls_of_wp Tryd.func36 rfl ?_
  have h0 := has_four (β := bn [g]) (.s 0 0 32 32) (vu (u : Int)) (vi p) (vi 7) 32
  have d0 : (⟨#[.slice (some ⟨g, 0, none⟩) 32 32, .int .u64 (u : Int), .int .i64 p, .int .i64 7] ++ Array.replicate 32 undef, []⟩ : Act).defers = [] := rfl
  refine wp_seq (wp_region ?_)
  refine oP 36 [] [0, 1] [(0, .s 0 0 32 32), (1, vu (u : Int)), (2, vi p), (3, vi 7), (8, vi 0), (9, vi 0)] h0 d0 (fun a1 h1 d1 => ?_)
  clear h0 d0
  show Code.wp _ _ _ _ _
  refine wp_seq ?_
  refine wp_seq (wp_region ?_)
  refine oP 36 [] [0, 1, 2, 3] [(0, .s 0 0 32 32), (1, vu (u : Int)), (2, vi p), (3, vi 7), (8, vi 0), (9, vi 0), (13, vb true)] h1 d1 (fun a2 h2 d2 => ?_)
  clear h1 d1
  show Code.wp _ _ _ _ _
  refine wp_cond_true (h2.2 13 _ rfl) ?_
  refine wp_seq (wp_region ?_)
  refine oP 36 [2, 3, 4] [0, 1] [(0, .s 0 0 32 32), (1, vu (u : Int)), (2, vi p), (3, vi 7), (8, vi 0), (9, vi 0), (13, vb true), (14, .s 0 0 32 32), (15, vi 7)] h2 d2 (fun a3 h3 d3 => ?_)
  clear h2 d2
  refine gW (s := .s 0 0 7 32) 36 [3, 4] h3 d3 rfl (want_ rfl) rfl (by decide) ((op_slice rfl (by rw [show (Option.map a3.eval (some (Operand.tmp 15))) = some (.int .i64 (7 : Nat)) from congrArg some (h3.2 15 _ rfl), show a3.eval (Operand.tmp 14) = _ from h3.2 14 _ rfl]; exact sl_to _ g 0 32 32 7 (by decide) (by decide)))) (fun a4 h4 d4 => ?_)
  clear h3 d3
  refine oP 36 [4] [3] [(0, .s 0 0 32 32), (1, vu (u : Int)), (2, vi p), (3, vi 7), (8, vi 0), (9, vi 0), (13, vb true), (14, .s 0 0 32 32), (15, vi 7), (16, .s 0 0 7 32), (17, vu (u : Int))] h4 d4 (fun a5 h5 d5 => ?_)
  clear h4 d4
  refine callW_ops (N := 36) (i := 4) (d := 18) (f := 55) (args := [.s 0 0 7 32, vu (u : Int)]) (l := []) rfl (want_ rfl) rfl (by decide) h5 Tryd.func55 rfl rfl rfl (by kernel_rfl) (fun v W' => v = .tuple #[] ∧ (⟨g, 59, 32, dgM m 7 u⟩ : Bl).In W' ∧ Fr [g] w W') ((fmt7_walk g u m hu w hg).mono fun e' w' hh => ⟨_, hh.1, rfl, hh.2⟩) (fun v6 W6 a6 hR6 h6 d6 => ?_)
  replace d6 := d6.trans d5
  clear h5 d5
  obtain ⟨rfl, hg6, F6⟩ := hR6
  show Code.wp _ _ _ _ _
  refine wp_seq (wp_region ?_)
  refine oP 36 [3] [0, 1, 2] [(0, .s 0 0 32 32), (2, vi p), (3, vi 7), (8, vi 0), (9, vi 0), (13, vb true), (19, vi 7), (20, vi p), (21, vi (IntKind.i64.wrap (7 + p)))] h6 d6 (fun a7 h7 d7 => ?_)
  clear h6 d6
  rw [show (IntKind.i64.wrap (7 + p)) = dp from hdp] at h7
  refine oP 36 [] [3] [(0, .s 0 0 32 32), (3, vi 7), (8, vi dp), (9, vi 0), (13, vb true)] h7 d7 (fun a8 h8 d8 => ?_)
  clear h7 d7
  show Code.wp _ _ _ _ _
  have h8x := sub_ok (E := [(0, .s 0 0 32 32), (3, vi ((7 : Nat) : Int)), (8, vi dp)]) h8 sE
  refine wp_block ?_
  refine wp_loop_rounds 8 ?_
  refine sd_loop g 7 dp (dgC 7 u) W6 (by decide) (fun i hi => (hg6.cell i (show i < 32 by omega)).trans (congrArg some (if_pos hi))) 7 (Nat.le_refl _) a8 h8x d8 (fun b0 hb e0 => ?_)
  refine exit_in ?_
  show Code.wp _ _ _ _ _
  have h9 := hb
  have d9 := e0
  refine wp_seq (wp_region ?_)
  refine oP 36 [] [0, 1, 2, 3] [(0, .s 0 0 32 32), (3, vi ((strip (dgC 7 u) 7 : Nat) : Int)), (8, vi dp), (9, vi ((strip (dgC 7 u) 7 : Nat) : Int))] h9 d9 (fun a10 h10 d10 => ?_)
  clear h9 d9
  show Code.wp _ _ _ _ _
  refine wp_ret ?_
  exact ⟨d10, _, results_tmp2 rfl _ _ _, congrArg Ending.returned (tuple2 (h10.2 8 _ rfl) (h10.2 9 _ rfl)), hg6, F6⟩
set_option maxHeartbeats 8000000 in
set_option maxRecDepth 100000 in
theorem set8_walk (g u : Nat) (p dp : Int) (m : Nat → Value) (hu : u < 100000000) (w : World) (hg : (⟨g, 59, 32, m⟩ : Bl).In w) (hdp : IntKind.i64.wrap (8 + p) = dp) :
    Calls Tryd.prog 36 #[.slice (some ⟨g, 0, none⟩) 32 32, .int .u64 (u : Int), .int .i64 p, .int .i64 8] w fun e' w' => e' = .returned (.tuple #[.int .i64 dp, .int .i64 ((strip (dgC 8 u) 8 : Nat) : Int)]) ∧ (⟨g, 59, 32, dgM m 8 u⟩ : Bl).In w' ∧ Fr [g] w w' := by
  refine calls_of_wp Tryd.func36 rfl ?_
  have h0 := has_four (β := bn [g]) (.s 0 0 32 32) (vu (u : Int)) (vi p) (vi 8) 32
  have d0 : (⟨#[.slice (some ⟨g, 0, none⟩) 32 32, .int .u64 (u : Int), .int .i64 p, .int .i64 8] ++ Array.replicate 32 undef, []⟩ : Act).defers = [] := rfl
  refine wp_seq (wp_region ?_)
  refine oP 36 [] [0, 1] [(0, .s 0 0 32 32), (1, vu (u : Int)), (2, vi p), (3, vi 8), (8, vi 0), (9, vi 0)] h0 d0 (fun a1 h1 d1 => ?_)
  clear h0 d0
  show Code.wp _ _ _ _ _
  refine wp_seq ?_
  refine wp_seq (wp_region ?_)
  refine oP 36 [] [0, 1, 2, 3] [(0, .s 0 0 32 32), (1, vu (u : Int)), (2, vi p), (3, vi 8), (8, vi 0), (9, vi 0), (13, vb true)] h1 d1 (fun a2 h2 d2 => ?_)
  clear h1 d1
  show Code.wp _ _ _ _ _
  refine wp_cond_true (h2.2 13 _ rfl) ?_
  refine wp_seq (wp_region ?_)
  refine oP 36 [2, 3, 4] [0, 1] [(0, .s 0 0 32 32), (1, vu (u : Int)), (2, vi p), (3, vi 8), (8, vi 0), (9, vi 0), (13, vb true), (14, .s 0 0 32 32), (15, vi 8)] h2 d2 (fun a3 h3 d3 => ?_)
  clear h2 d2
  refine gW (s := .s 0 0 8 32) 36 [3, 4] h3 d3 rfl (want_ rfl) rfl (by decide) ((op_slice rfl (by rw [show (Option.map a3.eval (some (Operand.tmp 15))) = some (.int .i64 (8 : Nat)) from congrArg some (h3.2 15 _ rfl), show a3.eval (Operand.tmp 14) = _ from h3.2 14 _ rfl]; exact sl_to _ g 0 32 32 8 (by decide) (by decide)))) (fun a4 h4 d4 => ?_)
  clear h3 d3
  refine oP 36 [4] [3] [(0, .s 0 0 32 32), (1, vu (u : Int)), (2, vi p), (3, vi 8), (8, vi 0), (9, vi 0), (13, vb true), (14, .s 0 0 32 32), (15, vi 8), (16, .s 0 0 8 32), (17, vu (u : Int))] h4 d4 (fun a5 h5 d5 => ?_)
  clear h4 d4
  refine callW_ops (N := 36) (i := 4) (d := 18) (f := 55) (args := [.s 0 0 8 32, vu (u : Int)]) (l := []) rfl (want_ rfl) rfl (by decide) h5 Tryd.func55 rfl rfl rfl (by kernel_rfl) (fun v W' => v = .tuple #[] ∧ (⟨g, 59, 32, dgM m 8 u⟩ : Bl).In W' ∧ Fr [g] w W') ((fmt8_walk g u m hu w hg).mono fun e' w' hh => ⟨_, hh.1, rfl, hh.2⟩) (fun v6 W6 a6 hR6 h6 d6 => ?_)
  replace d6 := d6.trans d5
  clear h5 d5
  obtain ⟨rfl, hg6, F6⟩ := hR6
  show Code.wp _ _ _ _ _
  refine wp_seq (wp_region ?_)
  refine oP 36 [3] [0, 1, 2] [(0, .s 0 0 32 32), (2, vi p), (3, vi 8), (8, vi 0), (9, vi 0), (13, vb true), (19, vi 8), (20, vi p), (21, vi (IntKind.i64.wrap (8 + p)))] h6 d6 (fun a7 h7 d7 => ?_)
  clear h6 d6
  rw [show (IntKind.i64.wrap (8 + p)) = dp from hdp] at h7
  refine oP 36 [] [3] [(0, .s 0 0 32 32), (3, vi 8), (8, vi dp), (9, vi 0), (13, vb true)] h7 d7 (fun a8 h8 d8 => ?_)
  clear h7 d7
  show Code.wp _ _ _ _ _
  have h8x := sub_ok (E := [(0, .s 0 0 32 32), (3, vi ((8 : Nat) : Int)), (8, vi dp)]) h8 sE
  refine wp_block ?_
  refine wp_loop_rounds 9 ?_
  refine sd_loop g 8 dp (dgC 8 u) W6 (by decide) (fun i hi => (hg6.cell i (show i < 32 by omega)).trans (congrArg some (if_pos hi))) 8 (Nat.le_refl _) a8 h8x d8 (fun b0 hb e0 => ?_)
  refine exit_in ?_
  show Code.wp _ _ _ _ _
  have h9 := hb
  have d9 := e0
  refine wp_seq (wp_region ?_)
  refine oP 36 [] [0, 1, 2, 3] [(0, .s 0 0 32 32), (3, vi ((strip (dgC 8 u) 8 : Nat) : Int)), (8, vi dp), (9, vi ((strip (dgC 8 u) 8 : Nat) : Int))] h9 d9 (fun a10 h10 d10 => ?_)
  clear h9 d9
  show Code.wp _ _ _ _ _
  refine wp_ret ?_
  exact ⟨d10, _, results_tmp2 rfl _ _ _, congrArg Ending.returned (tuple2 (h10.2 8 _ rfl) (h10.2 9 _ rfl)), hg6, F6⟩
set_option maxHeartbeats 8000000 in
set_option maxRecDepth 100000 in
theorem set9_walk (g u : Nat) (p dp : Int) (m : Nat → Value) (hu : u < 1000000000) (w : World) (hg : (⟨g, 59, 32, m⟩ : Bl).In w) (hdp : IntKind.i64.wrap (9 + p) = dp) :
    Calls Tryd.prog 36 #[.slice (some ⟨g, 0, none⟩) 32 32, .int .u64 (u : Int), .int .i64 p, .int .i64 9] w fun e' w' => e' = .returned (.tuple #[.int .i64 dp, .int .i64 ((strip (dgC 9 u) 9 : Nat) : Int)]) ∧ (⟨g, 59, 32, dgM m 9 u⟩ : Bl).In w' ∧ Fr [g] w w' := by
  refine calls_of_wp Tryd.func36 rfl ?_
  have h0 := has_four (β := bn [g]) (.s 0 0 32 32) (vu (u : Int)) (vi p) (vi 9) 32
  have d0 : (⟨#[.slice (some ⟨g, 0, none⟩) 32 32, .int .u64 (u : Int), .int .i64 p, .int .i64 9] ++ Array.replicate 32 undef, []⟩ : Act).defers = [] := rfl
  refine wp_seq (wp_region ?_)
  refine oP 36 [] [0, 1] [(0, .s 0 0 32 32), (1, vu (u : Int)), (2, vi p), (3, vi 9), (8, vi 0), (9, vi 0)] h0 d0 (fun a1 h1 d1 => ?_)
  clear h0 d0
  show Code.wp _ _ _ _ _
  refine wp_seq ?_
  refine wp_seq (wp_region ?_)
  refine oP 36 [] [0, 1, 2, 3] [(0, .s 0 0 32 32), (1, vu (u : Int)), (2, vi p), (3, vi 9), (8, vi 0), (9, vi 0), (13, vb true)] h1 d1 (fun a2 h2 d2 => ?_)
  clear h1 d1
  show Code.wp _ _ _ _ _
  refine wp_cond_true (h2.2 13 _ rfl) ?_
  refine wp_seq (wp_region ?_)
  refine oP 36 [2, 3, 4] [0, 1] [(0, .s 0 0 32 32), (1, vu (u : Int)), (2, vi p), (3, vi 9), (8, vi 0), (9, vi 0), (13, vb true), (14, .s 0 0 32 32), (15, vi 9)] h2 d2 (fun a3 h3 d3 => ?_)
  clear h2 d2
  refine gW (s := .s 0 0 9 32) 36 [3, 4] h3 d3 rfl (want_ rfl) rfl (by decide) ((op_slice rfl (by rw [show (Option.map a3.eval (some (Operand.tmp 15))) = some (.int .i64 (9 : Nat)) from congrArg some (h3.2 15 _ rfl), show a3.eval (Operand.tmp 14) = _ from h3.2 14 _ rfl]; exact sl_to _ g 0 32 32 9 (by decide) (by decide)))) (fun a4 h4 d4 => ?_)
  clear h3 d3
  refine oP 36 [4] [3] [(0, .s 0 0 32 32), (1, vu (u : Int)), (2, vi p), (3, vi 9), (8, vi 0), (9, vi 0), (13, vb true), (14, .s 0 0 32 32), (15, vi 9), (16, .s 0 0 9 32), (17, vu (u : Int))] h4 d4 (fun a5 h5 d5 => ?_)
  clear h4 d4
  refine callW_ops (N := 36) (i := 4) (d := 18) (f := 55) (args := [.s 0 0 9 32, vu (u : Int)]) (l := []) rfl (want_ rfl) rfl (by decide) h5 Tryd.func55 rfl rfl rfl (by kernel_rfl) (fun v W' => v = .tuple #[] ∧ (⟨g, 59, 32, dgM m 9 u⟩ : Bl).In W' ∧ Fr [g] w W') ((fmt9_walk g u m hu w hg).mono fun e' w' hh => ⟨_, hh.1, rfl, hh.2⟩) (fun v6 W6 a6 hR6 h6 d6 => ?_)
  replace d6 := d6.trans d5
  clear h5 d5
  obtain ⟨rfl, hg6, F6⟩ := hR6
  show Code.wp _ _ _ _ _
  refine wp_seq (wp_region ?_)
  refine oP 36 [3] [0, 1, 2] [(0, .s 0 0 32 32), (2, vi p), (3, vi 9), (8, vi 0), (9, vi 0), (13, vb true), (19, vi 9), (20, vi p), (21, vi (IntKind.i64.wrap (9 + p)))] h6 d6 (fun a7 h7 d7 => ?_)
  clear h6 d6
  rw [show (IntKind.i64.wrap (9 + p)) = dp from hdp] at h7
  refine oP 36 [] [3] [(0, .s 0 0 32 32), (3, vi 9), (8, vi dp), (9, vi 0), (13, vb true)] h7 d7 (fun a8 h8 d8 => ?_)
  clear h7 d7
  show Code.wp _ _ _ _ _
  have h8x := sub_ok (E := [(0, .s 0 0 32 32), (3, vi ((9 : Nat) : Int)), (8, vi dp)]) h8 sE
  refine wp_block ?_
  refine wp_loop_rounds 10 ?_
  refine sd_loop g 9 dp (dgC 9 u) W6 (by decide) (fun i hi => (hg6.cell i (show i < 32 by omega)).trans (congrArg some (if_pos hi))) 9 (Nat.le_refl _) a8 h8x d8 (fun b0 hb e0 => ?_)
  refine exit_in ?_
  show Code.wp _ _ _ _ _
  have h9 := hb
  have d9 := e0
  refine wp_seq (wp_region ?_)
  refine oP 36 [] [0, 1, 2, 3] [(0, .s 0 0 32 32), (3, vi ((strip (dgC 9 u) 9 : Nat) : Int)), (8, vi dp), (9, vi ((strip (dgC 9 u) 9 : Nat) : Int))] h9 d9 (fun a10 h10 d10 => ?_)
  clear h9 d9
  show Code.wp _ _ _ _ _
  refine wp_ret ?_
  exact ⟨d10, _, results_tmp2 rfl _ _ _, congrArg Ending.returned (tuple2 (h10.2 8 _ rfl) (h10.2 9 _ rfl)), hg6, F6⟩
end Go.Proofs.YtmgnffklmdhooaaDoor.PAll
namespace Go.Proofs.YtmgnffklmdhooaaDoor.PAll
open Go.RowKit Go.Proofs.YtmgnffklmdhooaaDoorW.PrintWords Go.Proofs.YtmgnffklmdhooaaDoorW.PrintLast Go.Proofs.YtmgnffklmdhooaaDoorW.PrintMore
set_option linter.unusedVariables false
set_option linter.unusedSimpArgs false
theorem cells_C {k : IntKind} {b o n : Nat} {x : Nat → Int} {W : World} (h : ∀ i, i < n → W.cell? ⟨b, o + i, none⟩ = some (.int k (x i))) (hn : n ≤ 9223372036854775807) : Kd.C (Kd.int k) W (some ⟨b, o, none⟩) n ((List.range n).map x) := by
  refine ⟨by simp, hn, fun _ => ⟨_, rfl, fun j p hp => ⟨[.int k p], rfl, rfl, fun i u hu => ?_⟩⟩⟩
  obtain ⟨hj, rfl⟩ := List.getElem?_eq_some_iff.1 hp
  have hj' : j < n := by simpa using hj
  cases i with
  | zero =>
    obtain rfl := Option.some.inj hu
    have := h j hj'
    show W.cell? (Addr.add ⟨b, o, none⟩ (j * 1 + 0)) = _
    have e : (Addr.add ⟨b, o, none⟩ (j * 1 + 0)) = ⟨b, o + j, none⟩ := by
      by_cases h0 : j = 0
      · simp [h0, Addr.add]
      · simp [h0, Addr.add]
    rw [e, this]
    simp
  | succ i => simp at hu
theorem op_buildSlice1 {P : Program} {ρ : Operand → Value} {o : Oper} {W W1 : World} {t : TypeId} {x : Operand} {v r : Value} (ho : o.op = .buildSlice t 1 #[(0, x)]) (hx : ρ x = v) (h : (Instr.buildSlice t 1 #[(0, v)]).run P W = .ok r W1) : (execOp ρ o).run P W = .ok (.value r) W1 := by
  unfold execOp
  rw [ho]
  simp only [List.map_toArray, List.map_cons, List.map_nil, hx, Sem.run_bind, h, Result.andThen_ok]
  rfl
theorem build_u8 (W : World) (x : Int) : (Instr.buildSlice 51 1 #[(0, .int .u8 x)]).run Tryd.prog W = .ok (.slice (some ⟨W.heap.size, 0, none⟩) 1 1) (W.alloc (.cells #[.int .u8 x] 5)) := by
  cases hq : Tryd.prog.info? 5 with
  | none => exact absurd (show (Tryd.prog.info? 5).isSome = true by kernel_rfl) (by simp [hq])
  | some ie =>
    have h1 : (Tryd.prog.info? 5).map (fun i => (i.zero, i.size)) = some (some (.int .u8 0), 1) := by kernel_rfl
    rw [hq] at h1
    simp only [Option.map_some, Option.some.injEq, Prod.mk.injEq] at h1
    obtain ⟨hz, hs⟩ := h1
    refine run_buildSlice W _ _ 1 _ _ ie _ Tryd.underlying51 hq hz (by rw [hs]; decide) (by rw [hs]; decide) ?_
    rw [hs]
    kernel_rfl
/-- The row v of octets l is the walk's own, apart from block g, in which the digits lie. -/
structure DS (g : Nat) (m : Nat → Value) (hb : Bool) (w0 : World) (W : World) (v : Value) (l : List Int) : Prop where
  row : Kd.R (Kd.int .u8) 5 W w0.heap.size (fun k => k ≠ g) v l
  bel : Below w0.heap.size w0 W
  buf : hb = true → (⟨g, 59, 32, m⟩ : Bl).In W
  lt : g < W.heap.size
theorem push_ops {ops : Array Oper} {Q : Exit → Act → World → Prop} {N : Nat} {β : Nat → Nat} {i j d1 d2 ts : Nat} {o1 o2 : Oper} {xo : Operand} {rest : List Nat} {a : Act} {E : List (Nat × SV)} {g : Nat} {m : Nat → Value} {hb : Bool} {w0 W : World} {v : Value} {l : List Int} {x : Int}
    (hD : DS g m hb w0 W v l) (hl : l.length < 70368744177664) (hA : Has N β E a) (ho1 : ops[i]? = some o1) (hg1 : o1.guard = none) (hd1 : o1.dst = some d1) (hN1 : d1 < N) (hop1 : o1.op = .buildSlice 51 1 #[(0, xo)]) (hx : a.eval xo = .int .u8 x)
    (ho2 : ops[j]? = some o2) (hg2 : o2.guard = none) (hd2 : o2.dst = some d2) (hN2 : d2 < N) (hop2 : o2.op = .call { callee := .builtin .append, args := #[.tmp ts, .tmp d1], argTypes := #[51, 51] }) (hts : Nat.beq d1 ts = false) (hv : look E ts = some (.v v))
    (h : ∀ v1 W1 a', DS g m hb w0 W1 v1 (l ++ [x]) → Has N β ((d2, .v v1) :: (d1, .v (.slice (some ⟨W.heap.size, 0, none⟩) 1 1)) :: E) a' → a'.defers = a.defers → wpOps Tryd.prog ops Q rest a' W1) : wpOps Tryd.prog ops Q (i :: j :: rest) a W := by
  refine new_ops (N := N) (i := i) (d := d1) (l := j :: rest) ho1 hg1 hd1 hN1 hA (op_buildSlice1 hop1 hx (build_u8 W x)) (fun a1 h1 e1 => ?_)
  have hcell : ∀ q, q < 1 → (W.alloc (.cells #[.int .u8 x] 5)).cell? ⟨W.heap.size, 0 + q, none⟩ = some (.int .u8 ((fun _ => x) q)) := fun q hq => by
    obtain rfl : q = 0 := by omega
    exact (bl_new W #[.int .u8 x] 5 (fun _ => .int .u8 x) (fun k hk => by
      have : k < 1 := hk
      obtain rfl : k = 0 := by omega
      rfl)).cell 0 (show 0 < 1 by decide)
  have HR := cells_C hcell (by decide)
  have B1 : Below w0.heap.size w0 (W.alloc (.cells #[.int .u8 x] 5)) := below_alloc hD.bel _
  have R1 : Kd.R (Kd.int .u8) 5 (W.alloc (.cells #[.int .u8 x] 5)) w0.heap.size (fun k => k ≠ g) v l := Kd.R_alloc hD.row _
  have I1 : hb = true → (⟨g, 59, 32, m⟩ : Bl).In (W.alloc (.cells #[.int .u8 x] 5)) := fun hh => (hD.buf hh).on ((Fr.refl [] W).alloc _) (by simp)
  have hsz : (W.alloc (.cells #[.int .u8 x] 5)).heap.size = W.heap.size + 1 := alloc_size _ _
  have hown : some g ≠ v.ownBlock := fun e => by
    have := hD.row.1 g e.symm
    exact this rfl
  refine app_ops (N := N) (i := j) (dst := d2) (l := rest) (Kd.int .u8) (w0 := w0) w0.heap.size ho2 hg2 hd2 hN2 h1 (.tmp ts) (.tmp d1) 51 5 (.int .u8 0) 1 hop2 Tryd.underlying51 (by kernel_rfl) rfl (by decide) (by decide) v l ((List.range 1).map (fun _ => x)) (some ⟨W.heap.size, 0, none⟩) 1 1 (fun k => k ≠ g) (fun _ => False)
    (h1.2 ts (.v v) (by unfold look; rw [hts]; exact hv)) (h1.2 d1 (.v (.slice (some ⟨W.heap.size, 0, none⟩) 1 1)) (by unfold look; rw [Nat.beq_refl])) R1 HR (fun x cs h => h) (fun _ h => h.elim) (fun k hk e => by have := hD.lt; omega) B1 (by have := hD.bel.size; omega) (by omega) (fun v1 w1 a5 hv1 hb1 hg1 h5 d5 => ?_)
  have hsz1 : (W.alloc (.cells #[.int .u8 x] 5)).heap.size ≤ w1.heap.size := hg1.size
  refine h v1 w1 a5 ⟨hv1, hb1, fun hh => ?_, by have := hD.lt; omega⟩ h5 (d5.trans e1)
  obtain ⟨cs, q1, q2, q3⟩ := I1 hh
  exact ⟨cs, (hg1.block g (by have := hD.lt; omega) hown).trans q1, q2, q3⟩
end Go.Proofs.YtmgnffklmdhooaaDoor.PAll
