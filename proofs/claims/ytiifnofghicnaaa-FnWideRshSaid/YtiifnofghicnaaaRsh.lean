/- FnWideRsh -/
import Derived.Test.YtiifnofghicnaaaShiftLaw
import Derived.Test.YtiifnofghicnaaaQAllx24
namespace Go.Proofs.Ytiifnofghicnaaa.PAll
open Go.RowKit Go.Proofs.YtiifnofghicnaaaW.PrintWords Go.Proofs.YtiifnofghicnaaaW.PrintLast Go.Proofs.YtiifnofghicnaaaW.PrintMore
set_option maxHeartbeats 1000000 in
set_option maxRecDepth 100000 in
theorem Rsh_1 (n i x : Nat) (p q : Nat) (A : Option Addr) (c : Nat) (w : World) (hi : i < 128) (hx : x < 340282366920938463463374607431768211456)
    (p0 : w.cell? ⟨p, 0, none⟩ = some (.int .u64 n)) (q0 : w.cell? ⟨q, 0, none⟩ = some (.slice A (Dig.dg x).length c)) (hc : (Dig.dg x).length ≤ c) (hr : Kd.C (Kd.int .i64) w A (Dig.dg x).length (Dig.dg x)) :
    Calls Try.prog 43 #[.int .i64 (i : Int), .pointer (some ⟨p, 0, none⟩), .pointer (some ⟨q, 0, none⟩)] w fun e w' => e = .returned (.bool (x.testBit (i + n))) ∧ Below w.heap.size w w' := by
  by_cases h : n < 128
  · go_enter Try.func43, Try.ntmps43
    go_wp2_with fail
    refine (spec_Big_Bit.calls A c _ ((i : Int) + (n : Int)) _ w hr hc (bit_add x i n hi h)).mono ?_
    rintro e w1 ⟨rfl, hb⟩
    go_wp2
    go_ret
    exact ⟨rfl, hb.below⟩
  · rw [Nat.testBit_lt_two_pow (Nat.lt_of_lt_of_le (show x < 2 ^ 128 from hx) (Nat.pow_le_pow_right (by decide) (show 128 ≤ i + n by omega)))]
    go_enter Try.func43, Try.ntmps43
    go_wp2_with fail
    go_ret
    exact ⟨rfl, Below.refl _ _⟩
set_option maxHeartbeats 1000000 in
set_option maxRecDepth 100000 in
theorem rsh_call (a b n : Int) (ha : U64 a) (hb : U64 b) (hn : U64 n) (r1 r2 : Int) (w : World) (h : impl_WideRsh.f a b n = some (r1, r2))
   (hs : laws_wideIs.f 100 r1 r2 (Dig.dg (Dig.ofb (fun i => (N128 a b).testBit (i + n.toNat)) 128)) = some true) :
    Calls Try.prog 8 #[.agg #[.int .u64 a, .int .u64 b], .int .u64 n] w fun e w' => e = .returned (.bool true) ∧ Below w.heap.size w w' := by
  obtain ⟨m, rfl, hm⟩ := hn.nat
  rw [Int.toNat_natCast] at hs
  have HH := Lib.hid h
  have HS := Lib.hid hs
  have HW := Lib.hid (whole_law ha hb)
  clear h hs
  go_enter Try.func8, Try.ntmps8
  go_wp2_with fail
  refine (laws_wideWhole.calls a b _ _ HW.out).mono ?_
  rintro e w1 ⟨v, rfl, hv, hb1⟩
  obtain ⟨A, c, rfl, hc, hr⟩ := V_at hv
  obtain ⟨x1, x2, x3, x4⟩ := box2 w (.cells #[.int .u64 a, .int .u64 b] 24) (.cells #[.int .u64 m] 36)
  have k1 := blk_on x1 hb1
  have k2 := blk_on x2 hb1
  have B1 : Below w.heap.size w w1 := on_ x3 (by rw [x4]; omega) hb1
  have e1 : ∀ o, (w1.alloc o).cell? ⟨w.heap.size, 0, none⟩ = some (.int .u64 a) := fun o => (blk_cell (blk_alloc k1 o) 0).trans rfl
  have e2 : ∀ o, (w1.alloc o).cell? ⟨w.heap.size, 1, none⟩ = some (.int .u64 b) := fun o => (blk_cell (blk_alloc k1 o) 1).trans rfl
  have e3 : ∀ o, (w1.alloc o).cell? ⟨w.heap.size + 1, 0, none⟩ = some (.int .u64 m) := fun o => (blk_cell (blk_alloc k2 o) 0).trans rfl
  have E := Lib.hid (And.intro k2 (And.intro B1 hr))
  clear k1 k2 B1 hr hb1 x1 x2 x3 x4 hv
  go_wp2_with fail
  refine (impl_WideRsh.calls a b m r1 r2 _ HH.out).mono ?_
  rintro e w2 ⟨rfl, hb2⟩
  clear e1 e2 e3
  have hmf : ∀ (fn : Fn) (first cap : Array Value) (w : World), (Instr.makeFunc fn first cap).run Try.prog w = .ok (.func fn first cap) w := fun _ _ _ _ => rfl
  go_wp2_with fail
  obtain ⟨y1, y2, y3⟩ := box1 w1 (.cells #[.slice A (Dig.dg (N128 a b)).length c] 27)
  obtain ⟨k2, B1, hr⟩ := id E
  have q := blk_on y1 hb2
  have k := blk_on (blk_alloc k2 _) hb2
  have B2 : Below w1.heap.size w1 w2 := on_ y2 (by rw [y3]; omega) hb2
  have B3 : Below w.heap.size w w2 := on_ B1 B1.size B2
  have F := Lib.hid (And.intro q (And.intro k (And.intro B2 hr)))
  have G := Lib.hid B3
  clear y1 y2 y3 k2 B1 hr q k B2 B3 hb2 E
  refine (ofBits_128 w2 43 _ (fun i => (N128 a b).testBit (i + m)) (fun _ _ => rfl) (Lib.hid fun i W hi hW => ?_)).mono ?_
  · obtain ⟨q, k, B2, hr⟩ := id F
    exact Rsh_1 m i (N128 a b) _ _ A c W hi (N128_lt ha hb) ((blk_cell (blk_on k hW) 0).trans rfl) ((blk_cell (blk_on q hW) 0).trans rfl) hc (hr W (on_ B2 B2.size hW))
  rintro e w3 ⟨v, rfl, hv, hb3⟩
  obtain ⟨A', c', rfl, hc', hr'⟩ := V_at hv
  clear hv
  go_wp2_with fail
  refine (laws_wideIs.calls 100 r1 r2 A' c' _ true _ (hr' _ (Below.refl _ _)) hc' HS).mono ?_
  rintro e w4 ⟨rfl, hb4⟩
  go_wp2
  go_ret
  have B3 : Below w.heap.size w w2 := G
  have B4 := on_ B3 B3.size hb3
  exact ⟨rfl, on_ B4 B4.size hb4⟩
theorem rsh_walk (a b n : Int) (ha : 0 ≤ a ∧ a ≤ 18446744073709551615) (hb : 0 ≤ b ∧ b ≤ 18446744073709551615) (hn : 0 ≤ n ∧ n ≤ 18446744073709551615) (w : World) :
    Calls Try.prog 8 #[.agg #[.int .u64 a, .int .u64 b], .int .u64 n] w fun e w' => e = .returned (.bool true) ∧ Below w.heap.size w w' := by
  obtain ⟨x, rfl, hx⟩ := (U64.of ha).nat
  obtain ⟨y, rfl, hy⟩ := (U64.of hb).nat
  obtain ⟨m, rfl, hm⟩ := (U64.of hn).nat
  obtain ⟨u, v, h, hu, hv, h1, h2⟩ := rsh_bits x y m hx hy hm
  refine rsh_call _ _ _ (U64.of ha) (U64.of hb) (U64.of hn) u v w ?_ (is_bits u v _ hu hv h1 h2)
  unfold impl_WideRsh.f
  rw [bnd (show impl_Wide_u.f (x : Int) (y : Int) = some ((x : Int), (y : Int)) from rfl), bnd h]
  rfl
end Go.Proofs.Ytiifnofghicnaaa.PAll
