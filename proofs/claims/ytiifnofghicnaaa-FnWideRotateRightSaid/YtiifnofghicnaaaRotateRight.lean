/- FnWideRotateRight -/
import Derived.Test.YtiifnofghicnaaaRotLaw
import Derived.Test.YtiifnofghicnaaaQAllx38
namespace Go.Proofs.Ytiifnofghicnaaa.PAll
open Go.RowKit Go.Proofs.YtiifnofghicnaaaW.PrintWords Go.Proofs.YtiifnofghicnaaaW.PrintLast Go.Proofs.YtiifnofghicnaaaW.PrintMore
theorem rot_right (x i n : Nat) (_hi : i < 128) (_hn : n < 128) : spec_Big_Bit.f (Dig.dg x) (((i : Int) + (n : Int)) % 128) = some (x.testBit ((i + n) % 128)) := by
  have e : ((i : Int) + (n : Int)) % 128 = (((i + n) % 128 : Nat) : Int) := by omega
  rw [e, bit_law x _ (by omega)]
set_option maxHeartbeats 1000000 in
set_option maxRecDepth 100000 in
theorem RotateRight_1 (n i x : Nat) (p q : Nat) (A : Option Addr) (c : Nat) (w : World) (hi : i < 128) (hn : n < 128)
    (p0 : w.cell? ⟨p, 0, none⟩ = some (.int .i64 n)) (q0 : w.cell? ⟨q, 0, none⟩ = some (.slice A (Dig.dg x).length c)) (hc : (Dig.dg x).length ≤ c) (hr : Kd.C (Kd.int .i64) w A (Dig.dg x).length (Dig.dg x)) :
    Calls Try.prog 71 #[.int .i64 (i : Int), .pointer (some ⟨q, 0, none⟩), .pointer (some ⟨p, 0, none⟩)] w fun e w' => e = .returned (.bool (x.testBit ((i + n) % 128))) ∧ Below w.heap.size w w' := by
  have hB := Lib.hid (rot_right x i n hi hn)
  generalize x.testBit ((i + n) % 128) = r at hB ⊢
  go_enter Try.func71, Try.ntmps71
  go_wp2_with fail
  refine (spec_Big_Bit.calls A c _ (((i : Int) + (n : Int)) % 128) r w hr hc hB).mono ?_
  rintro e w1 ⟨rfl, hb⟩
  clear hB p0 q0 hr hc
  go_wp2
  go_ret
  exact ⟨rfl, hb.below⟩
set_option maxHeartbeats 1000000 in
set_option maxRecDepth 100000 in
theorem rotr_call (a b k : Int) (ha : U64 a) (hb : U64 b) (_hk : -9223372036854775808 ≤ k ∧ k ≤ 9223372036854775807) (r1 r2 : Int) (w : World) (h : impl_WideRotateRight.f a b k = some (r1, r2))
   (hs : laws_wideIs.f 100 r1 r2 (Dig.dg (Dig.ofb (fun i => (N128 a b).testBit ((i + (k % 128).toNat) % 128)) 128)) = some true) :
    Calls Try.prog 20 #[.agg #[.int .u64 a, .int .u64 b], .int .i64 k] w fun e w' => e = .returned (.bool true) ∧ Below w.heap.size w w' := by
  obtain ⟨n, en, hn⟩ : ∃ n : Nat, k % 128 = n ∧ n < 128 := ⟨(k % 128).toNat, by omega, by omega⟩
  rw [en, Int.toNat_natCast] at hs
  have HH := Lib.hid h
  have HS := Lib.hid hs
  have HW := Lib.hid (whole_law ha hb)
  have EN := Lib.hid en
  clear h hs en
  go_enter Try.func20, Try.ntmps20
  go_wp2_with fail
  refine (laws_wideWhole.calls a b _ _ HW.out).mono ?_
  rintro e w1 ⟨v, rfl, hv, hb1⟩
  obtain ⟨A, c, rfl, hc, hr⟩ := V_at hv
  obtain ⟨x1, x3, x4⟩ := box1 w (.cells #[.int .u64 a, .int .u64 b] 24)
  have k1 := blk_on x1 hb1
  have B1 : Below w.heap.size w w1 := on_ x3 (by rw [x4]; omega) hb1
  have e1 : ∀ o o', ((w1.alloc o).alloc o').cell? ⟨w.heap.size, 0, none⟩ = some (.int .u64 a) := fun o o' => (blk_cell (blk_alloc (blk_alloc k1 o) o') 0).trans rfl
  have e2 : ∀ o o', ((w1.alloc o).alloc o').cell? ⟨w.heap.size, 1, none⟩ = some (.int .u64 b) := fun o o' => (blk_cell (blk_alloc (blk_alloc k1 o) o') 1).trans rfl
  have E := Lib.hid (And.intro B1 hr)
  clear k1 B1 hr hb1 x1 x3 x4 hv
  go_wp2_with fail
  rw [show wrap64 ((IntKind.u64.wrap k).tmod 128) = (n : Int) from wrap_mod k n EN]
  refine (impl_WideRotateRight.calls a b k r1 r2 _ HH.out).mono ?_
  rintro e w2 ⟨rfl, hb2⟩
  clear e1 e2
  have hmf : ∀ (fn : Fn) (first cap : Array Value) (w : World), (Instr.makeFunc fn first cap).run Try.prog w = .ok (.func fn first cap) w := fun _ _ _ _ => rfl
  go_wp2_with fail
  obtain ⟨y1, k2, y2, y3⟩ := box2 w1 (.cells #[.slice A (Dig.dg (N128 a b)).length c] 27) (.cells #[.int .i64 n] 3)
  obtain ⟨B1, hr⟩ := id E
  have q := blk_on y1 hb2
  have k := blk_on k2 hb2
  have B2 : Below w1.heap.size w1 w2 := on_ y2 (by rw [y3]; omega) hb2
  have B3 : Below w.heap.size w w2 := on_ B1 B1.size B2
  have F := Lib.hid (And.intro q (And.intro k (And.intro B2 hr)))
  have G := Lib.hid B3
  clear y1 y2 y3 k2 B1 hr q k B2 B3 hb2 E
  refine (ofBits_128 w2 71 _ (fun i => (N128 a b).testBit ((i + n) % 128)) (fun _ _ => rfl) (Lib.hid fun i W hi hW => ?_)).mono ?_
  · obtain ⟨q, k, B2, hr⟩ := id F
    exact RotateRight_1 n i (N128 a b) _ _ A c W hi hn ((blk_cell (blk_on k hW) 0).trans rfl) ((blk_cell (blk_on q hW) 0).trans rfl) hc (hr W (on_ B2 B2.size hW))
  rintro e w3 ⟨v, rfl, hv, hb3⟩
  obtain ⟨A', c', rfl, hc', hr'⟩ := V_at hv
  clear hv
  go_wp2_with fail
  refine (laws_wideIs.calls 100 r1 r2 A' c' _ true _ (hr' _ (Below.refl _ _)) hc' HS).mono ?_
  rintro e w4 ⟨rfl, hb4⟩
  go_wp2
  go_ret
  have B3 : Below w.heap.size w w2 := G
  have B4 := on_ B3 B3.size hb3
  exact ⟨rfl, on_ B4 B4.size hb4⟩
theorem rotateRight_walk (a b k : Int) (ha : 0 ≤ a ∧ a ≤ 18446744073709551615) (hb : 0 ≤ b ∧ b ≤ 18446744073709551615) (hk : -9223372036854775808 ≤ k ∧ k ≤ 9223372036854775807) (w : World) :
    Calls Try.prog 20 #[.agg #[.int .u64 a, .int .u64 b], .int .i64 k] w fun e w' => e = .returned (.bool true) ∧ Below w.heap.size w w' := by
  obtain ⟨x, rfl, hx⟩ := (U64.of ha).nat
  obtain ⟨y, rfl, hy⟩ := (U64.of hb).nat
  have hneg : (-k) % 128 = (((128 - (k % 128).toNat) % 128 : Nat) : Int) := by omega
  have hw : wrap64 (-k) % 128 = (((128 - (k % 128).toNat) % 128 : Nat) : Int) := by
    rw [← hneg]
    unfold wrap64
    omega
  obtain ⟨u, v, h, hu, hv, h1, h2⟩ := rotl_bits x y ((128 - (k % 128).toNat) % 128) (wrap64 (-k)) hx hy hw (by omega)
  have hi : ∀ i, i < 128 → (i + 128 - (128 - (k % 128).toNat) % 128) % 128 = (i + (k % 128).toNat) % 128 := fun i hi => by omega
  refine rotr_call _ _ _ (U64.of ha) (U64.of hb) hk u v w ?_ (is_bits u v _ hu hv (fun i h => by rw [h1 i h, hi i (by omega)]) (fun i h => by rw [h2 i h, hi (i + 64) (by omega)]))
  unfold impl_WideRotateRight.f
  have h' : uint128_Uint128_RotateRight.f x y k = some ((u : Int), (v : Int)) := by
    unfold uint128_Uint128_RotateRight.f
    rw [bnd h]
  rw [bnd (show impl_Wide_u.f (x : Int) (y : Int) = some ((x : Int), (y : Int)) from rfl), bnd h']
  rfl
end Go.Proofs.Ytiifnofghicnaaa.PAll
