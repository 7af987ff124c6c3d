/- Numbers written as octets: PutUint64, PutBytes, PutBytesBE. Printed by gen/byput.py. -/
import Derived.Test.YtiifnofghicnaaaByWide
namespace Go.Proofs.Ytiifnofghicnaaa.BAll
open Go.RowKit Go.Proofs.YtiifnofghicnaaaW.PrintWords Go.Proofs.YtiifnofghicnaaaW.PrintLast Go.Proofs.YtiifnofghicnaaaW.PrintMore
set_option linter.unusedVariables false
set_option linter.unusedSimpArgs false
/-- Other blocks than g are as they were. -/
def Oth (g : Nat) (w W : World) : Prop := ∀ k, k ≠ g → k < w.heap.size → W.heap[k]? = w.heap[k]?
theorem oth_alloc (g : Nat) (w : World) (o : Obj) : Oth g w (w.alloc o) := fun k _ hk => ((Below.refl w.heap.size w).alloc (Nat.le_refl _) o).block k hk
theorem Oth.set {g i : Nat} {w W : World} (h : Oth g w W) (v : Value) : Oth g w (W.setCell ⟨g, i, none⟩ v) := fun k hk hl => (Below.heap_setCell W ⟨g, i, none⟩ v k hk).trans (h k hk hl)
/-- A block of octets, eight of which are set. -/
def put8 (cur : Array Value) (o : Nat) (b0 b1 b2 b3 b4 b5 b6 b7 : Int) : Array Value := ((((((((cur.setIfInBounds (o) (.int .u8 b0)).setIfInBounds (o + 1) (.int .u8 b1)).setIfInBounds (o + 2) (.int .u8 b2)).setIfInBounds (o + 3) (.int .u8 b3)).setIfInBounds (o + 4) (.int .u8 b4)).setIfInBounds (o + 5) (.int .u8 b5)).setIfInBounds (o + 6) (.int .u8 b6)).setIfInBounds (o + 7) (.int .u8 b7))
set_option maxHeartbeats 1000000 in
set_option maxRecDepth 100000 in
theorem leP_ok (g o n c : Nat) (v : Int) (hn : 8 ≤ n) (cur : Array Value) (w : World) (hh : w.heap[g]? = some (.cells cur 5 (0, 0))) (ho : o + 8 ≤ cur.size) :
    Calls Try.prog 138 #[.agg #[], .slice (some ⟨g, o, none⟩) n c, .int .u64 v] w fun e w' => e = .returned (.tuple #[]) ∧ w'.heap[g]? = some (.cells (put8 cur o (v % 256) (v / 256 % 256) (v / 65536 % 256) (v / 16777216 % 256) (v / 4294967296 % 256) (v / 1099511627776 % 256) (v / 281474976710656 % 256) (v / 72057594037927936 % 256)) 5 (0, 0)) ∧ Below g w w' ∧ Oth g w w' := by
  have hl := blk_lt hh
  have i1 : ((1 : Int) < (n : Int)) = True := eq_true (by omega)
  have i2 : ((2 : Int) < (n : Int)) = True := eq_true (by omega)
  have i3 : ((3 : Int) < (n : Int)) = True := eq_true (by omega)
  have i4 : ((4 : Int) < (n : Int)) = True := eq_true (by omega)
  have i5 : ((5 : Int) < (n : Int)) = True := eq_true (by omega)
  have i6 : ((6 : Int) < (n : Int)) = True := eq_true (by omega)
  have i7 : ((7 : Int) < (n : Int)) = True := eq_true (by omega)
  have i0 : (0 < n) = True := eq_true (by omega)
  have E0 := Lib.hid (And.intro (blk_alloc hh (.cells #[] 90)) (And.intro ((Below.refl g w).alloc (Nat.le_of_lt hl) (.cells #[] 90)) (oth_alloc g w (.cells #[] 90))))
  clear hh
  go_enter Try.func138, Try.ntmps138
  go_upto_region 1 with (fail)
  obtain ⟨hh, BW, OW⟩ := E0.out
  clear E0
  generalize w.alloc (.cells #[] 90) = V0 at hh BW OW ⊢
  obtain ⟨u7, c7⟩ : ∃ u, V0.cell? ⟨g, o + 7, none⟩ = some u := ⟨_, (blk_cell hh _).trans (Array.getElem?_eq_getElem (by omega))⟩
  go_upto_region 2 with (fail)
  clear c7
  obtain ⟨u, c⟩ : ∃ u, V0.cell? ⟨g, o, none⟩ = some u := ⟨_, (blk_cell hh _).trans (Array.getElem?_eq_getElem (by (try simp only [Array.size_setIfInBounds]); omega))⟩
  have f := blk_frozen hh (o)
  have E1 := Lib.hid (And.intro hh (And.intro BW OW))
  clear hh BW OW
  go_upto_region 3 with (fail)
  obtain ⟨hh, BW, OW⟩ := E1.out
  replace hh : (V0.setCell ⟨g, o, none⟩ (.int .u8 (v % 256))).heap[g]? = some (.cells (cur.setIfInBounds (o) (.int .u8 (v % 256))) 5 (0, 0)) := blk_set hh (o) (.int .u8 (v % 256))
  replace BW := BW.setCell (p := ⟨g, o, none⟩) (Nat.le_refl _) (.int .u8 (v % 256))
  replace OW := OW.set (i := o) (.int .u8 (v % 256))
  clear c f E1
  generalize V0.setCell ⟨g, o, none⟩ (.int .u8 (v % 256)) = V1 at hh BW OW ⊢
  obtain ⟨u, c⟩ : ∃ u, V1.cell? ⟨g, o + 1, none⟩ = some u := ⟨_, (blk_cell hh _).trans (Array.getElem?_eq_getElem (by (try simp only [Array.size_setIfInBounds]); omega))⟩
  have f := blk_frozen hh (o + 1)
  have E1 := Lib.hid (And.intro hh (And.intro BW OW))
  clear hh BW OW
  go_upto_region 4 with (fail)
  obtain ⟨hh, BW, OW⟩ := E1.out
  replace hh : (V1.setCell ⟨g, o + 1, none⟩ (.int .u8 (v / 256 % 256))).heap[g]? = some (.cells ((cur.setIfInBounds (o) (.int .u8 (v % 256))).setIfInBounds (o + 1) (.int .u8 (v / 256 % 256))) 5 (0, 0)) := blk_set hh (o + 1) (.int .u8 (v / 256 % 256))
  replace BW := BW.setCell (p := ⟨g, o + 1, none⟩) (Nat.le_refl _) (.int .u8 (v / 256 % 256))
  replace OW := OW.set (i := o + 1) (.int .u8 (v / 256 % 256))
  clear c f E1
  generalize V1.setCell ⟨g, o + 1, none⟩ (.int .u8 (v / 256 % 256)) = V2 at hh BW OW ⊢
  obtain ⟨u, c⟩ : ∃ u, V2.cell? ⟨g, o + 2, none⟩ = some u := ⟨_, (blk_cell hh _).trans (Array.getElem?_eq_getElem (by (try simp only [Array.size_setIfInBounds]); omega))⟩
  have f := blk_frozen hh (o + 2)
  have E1 := Lib.hid (And.intro hh (And.intro BW OW))
  clear hh BW OW
  go_upto_region 5 with (fail)
  obtain ⟨hh, BW, OW⟩ := E1.out
  replace hh : (V2.setCell ⟨g, o + 2, none⟩ (.int .u8 (v / 65536 % 256))).heap[g]? = some (.cells (((cur.setIfInBounds (o) (.int .u8 (v % 256))).setIfInBounds (o + 1) (.int .u8 (v / 256 % 256))).setIfInBounds (o + 2) (.int .u8 (v / 65536 % 256))) 5 (0, 0)) := blk_set hh (o + 2) (.int .u8 (v / 65536 % 256))
  replace BW := BW.setCell (p := ⟨g, o + 2, none⟩) (Nat.le_refl _) (.int .u8 (v / 65536 % 256))
  replace OW := OW.set (i := o + 2) (.int .u8 (v / 65536 % 256))
  clear c f E1
  generalize V2.setCell ⟨g, o + 2, none⟩ (.int .u8 (v / 65536 % 256)) = V3 at hh BW OW ⊢
  obtain ⟨u, c⟩ : ∃ u, V3.cell? ⟨g, o + 3, none⟩ = some u := ⟨_, (blk_cell hh _).trans (Array.getElem?_eq_getElem (by (try simp only [Array.size_setIfInBounds]); omega))⟩
  have f := blk_frozen hh (o + 3)
  have E1 := Lib.hid (And.intro hh (And.intro BW OW))
  clear hh BW OW
  go_upto_region 6 with (fail)
  obtain ⟨hh, BW, OW⟩ := E1.out
  replace hh : (V3.setCell ⟨g, o + 3, none⟩ (.int .u8 (v / 16777216 % 256))).heap[g]? = some (.cells ((((cur.setIfInBounds (o) (.int .u8 (v % 256))).setIfInBounds (o + 1) (.int .u8 (v / 256 % 256))).setIfInBounds (o + 2) (.int .u8 (v / 65536 % 256))).setIfInBounds (o + 3) (.int .u8 (v / 16777216 % 256))) 5 (0, 0)) := blk_set hh (o + 3) (.int .u8 (v / 16777216 % 256))
  replace BW := BW.setCell (p := ⟨g, o + 3, none⟩) (Nat.le_refl _) (.int .u8 (v / 16777216 % 256))
  replace OW := OW.set (i := o + 3) (.int .u8 (v / 16777216 % 256))
  clear c f E1
  generalize V3.setCell ⟨g, o + 3, none⟩ (.int .u8 (v / 16777216 % 256)) = V4 at hh BW OW ⊢
  obtain ⟨u, c⟩ : ∃ u, V4.cell? ⟨g, o + 4, none⟩ = some u := ⟨_, (blk_cell hh _).trans (Array.getElem?_eq_getElem (by (try simp only [Array.size_setIfInBounds]); omega))⟩
  have f := blk_frozen hh (o + 4)
  have E1 := Lib.hid (And.intro hh (And.intro BW OW))
  clear hh BW OW
  go_upto_region 7 with (fail)
  obtain ⟨hh, BW, OW⟩ := E1.out
  replace hh : (V4.setCell ⟨g, o + 4, none⟩ (.int .u8 (v / 4294967296 % 256))).heap[g]? = some (.cells (((((cur.setIfInBounds (o) (.int .u8 (v % 256))).setIfInBounds (o + 1) (.int .u8 (v / 256 % 256))).setIfInBounds (o + 2) (.int .u8 (v / 65536 % 256))).setIfInBounds (o + 3) (.int .u8 (v / 16777216 % 256))).setIfInBounds (o + 4) (.int .u8 (v / 4294967296 % 256))) 5 (0, 0)) := blk_set hh (o + 4) (.int .u8 (v / 4294967296 % 256))
  replace BW := BW.setCell (p := ⟨g, o + 4, none⟩) (Nat.le_refl _) (.int .u8 (v / 4294967296 % 256))
  replace OW := OW.set (i := o + 4) (.int .u8 (v / 4294967296 % 256))
  clear c f E1
  generalize V4.setCell ⟨g, o + 4, none⟩ (.int .u8 (v / 4294967296 % 256)) = V5 at hh BW OW ⊢
  obtain ⟨u, c⟩ : ∃ u, V5.cell? ⟨g, o + 5, none⟩ = some u := ⟨_, (blk_cell hh _).trans (Array.getElem?_eq_getElem (by (try simp only [Array.size_setIfInBounds]); omega))⟩
  have f := blk_frozen hh (o + 5)
  have E1 := Lib.hid (And.intro hh (And.intro BW OW))
  clear hh BW OW
  go_upto_region 8 with (fail)
  obtain ⟨hh, BW, OW⟩ := E1.out
  replace hh : (V5.setCell ⟨g, o + 5, none⟩ (.int .u8 (v / 1099511627776 % 256))).heap[g]? = some (.cells ((((((cur.setIfInBounds (o) (.int .u8 (v % 256))).setIfInBounds (o + 1) (.int .u8 (v / 256 % 256))).setIfInBounds (o + 2) (.int .u8 (v / 65536 % 256))).setIfInBounds (o + 3) (.int .u8 (v / 16777216 % 256))).setIfInBounds (o + 4) (.int .u8 (v / 4294967296 % 256))).setIfInBounds (o + 5) (.int .u8 (v / 1099511627776 % 256))) 5 (0, 0)) := blk_set hh (o + 5) (.int .u8 (v / 1099511627776 % 256))
  replace BW := BW.setCell (p := ⟨g, o + 5, none⟩) (Nat.le_refl _) (.int .u8 (v / 1099511627776 % 256))
  replace OW := OW.set (i := o + 5) (.int .u8 (v / 1099511627776 % 256))
  clear c f E1
  generalize V5.setCell ⟨g, o + 5, none⟩ (.int .u8 (v / 1099511627776 % 256)) = V6 at hh BW OW ⊢
  obtain ⟨u, c⟩ : ∃ u, V6.cell? ⟨g, o + 6, none⟩ = some u := ⟨_, (blk_cell hh _).trans (Array.getElem?_eq_getElem (by (try simp only [Array.size_setIfInBounds]); omega))⟩
  have f := blk_frozen hh (o + 6)
  have E1 := Lib.hid (And.intro hh (And.intro BW OW))
  clear hh BW OW
  go_upto_region 9 with (fail)
  obtain ⟨hh, BW, OW⟩ := E1.out
  replace hh : (V6.setCell ⟨g, o + 6, none⟩ (.int .u8 (v / 281474976710656 % 256))).heap[g]? = some (.cells (((((((cur.setIfInBounds (o) (.int .u8 (v % 256))).setIfInBounds (o + 1) (.int .u8 (v / 256 % 256))).setIfInBounds (o + 2) (.int .u8 (v / 65536 % 256))).setIfInBounds (o + 3) (.int .u8 (v / 16777216 % 256))).setIfInBounds (o + 4) (.int .u8 (v / 4294967296 % 256))).setIfInBounds (o + 5) (.int .u8 (v / 1099511627776 % 256))).setIfInBounds (o + 6) (.int .u8 (v / 281474976710656 % 256))) 5 (0, 0)) := blk_set hh (o + 6) (.int .u8 (v / 281474976710656 % 256))
  replace BW := BW.setCell (p := ⟨g, o + 6, none⟩) (Nat.le_refl _) (.int .u8 (v / 281474976710656 % 256))
  replace OW := OW.set (i := o + 6) (.int .u8 (v / 281474976710656 % 256))
  clear c f E1
  generalize V6.setCell ⟨g, o + 6, none⟩ (.int .u8 (v / 281474976710656 % 256)) = V7 at hh BW OW ⊢
  obtain ⟨u, c⟩ : ∃ u, V7.cell? ⟨g, o + 7, none⟩ = some u := ⟨_, (blk_cell hh _).trans (Array.getElem?_eq_getElem (by (try simp only [Array.size_setIfInBounds]); omega))⟩
  have f := blk_frozen hh (o + 7)
  have E1 := Lib.hid (And.intro hh (And.intro BW OW))
  clear hh BW OW
  go_wp2_with fail
  obtain ⟨hh, BW, OW⟩ := E1.out
  replace hh : (V7.setCell ⟨g, o + 7, none⟩ (.int .u8 (v / 72057594037927936 % 256))).heap[g]? = some (.cells ((((((((cur.setIfInBounds (o) (.int .u8 (v % 256))).setIfInBounds (o + 1) (.int .u8 (v / 256 % 256))).setIfInBounds (o + 2) (.int .u8 (v / 65536 % 256))).setIfInBounds (o + 3) (.int .u8 (v / 16777216 % 256))).setIfInBounds (o + 4) (.int .u8 (v / 4294967296 % 256))).setIfInBounds (o + 5) (.int .u8 (v / 1099511627776 % 256))).setIfInBounds (o + 6) (.int .u8 (v / 281474976710656 % 256))).setIfInBounds (o + 7) (.int .u8 (v / 72057594037927936 % 256))) 5 (0, 0)) := blk_set hh (o + 7) (.int .u8 (v / 72057594037927936 % 256))
  replace BW := BW.setCell (p := ⟨g, o + 7, none⟩) (Nat.le_refl _) (.int .u8 (v / 72057594037927936 % 256))
  replace OW := OW.set (i := o + 7) (.int .u8 (v / 72057594037927936 % 256))
  clear c f E1
  generalize V7.setCell ⟨g, o + 7, none⟩ (.int .u8 (v / 72057594037927936 % 256)) = V8 at hh BW OW ⊢
  refine bodyPost_end (results_none rfl _ _ _) rfl ?_
  exact ⟨rfl, hh, BW, OW⟩
set_option maxHeartbeats 1000000 in
set_option maxRecDepth 100000 in
theorem beP_ok (g o n c : Nat) (v : Int) (hn : 8 ≤ n) (cur : Array Value) (w : World) (hh : w.heap[g]? = some (.cells cur 5 (0, 0))) (ho : o + 8 ≤ cur.size) :
    Calls Try.prog 137 #[.agg #[], .slice (some ⟨g, o, none⟩) n c, .int .u64 v] w fun e w' => e = .returned (.tuple #[]) ∧ w'.heap[g]? = some (.cells (put8 cur o (v / 72057594037927936 % 256) (v / 281474976710656 % 256) (v / 1099511627776 % 256) (v / 4294967296 % 256) (v / 16777216 % 256) (v / 65536 % 256) (v / 256 % 256) (v % 256)) 5 (0, 0)) ∧ Below g w w' ∧ Oth g w w' := by
  have hl := blk_lt hh
  have i1 : ((1 : Int) < (n : Int)) = True := eq_true (by omega)
  have i2 : ((2 : Int) < (n : Int)) = True := eq_true (by omega)
  have i3 : ((3 : Int) < (n : Int)) = True := eq_true (by omega)
  have i4 : ((4 : Int) < (n : Int)) = True := eq_true (by omega)
  have i5 : ((5 : Int) < (n : Int)) = True := eq_true (by omega)
  have i6 : ((6 : Int) < (n : Int)) = True := eq_true (by omega)
  have i7 : ((7 : Int) < (n : Int)) = True := eq_true (by omega)
  have i0 : (0 < n) = True := eq_true (by omega)
  have E0 := Lib.hid (And.intro (blk_alloc hh (.cells #[] 88)) (And.intro ((Below.refl g w).alloc (Nat.le_of_lt hl) (.cells #[] 88)) (oth_alloc g w (.cells #[] 88))))
  clear hh
  go_enter Try.func137, Try.ntmps137
  go_upto_region 1 with (fail)
  obtain ⟨hh, BW, OW⟩ := E0.out
  clear E0
  generalize w.alloc (.cells #[] 88) = V0 at hh BW OW ⊢
  obtain ⟨u7, c7⟩ : ∃ u, V0.cell? ⟨g, o + 7, none⟩ = some u := ⟨_, (blk_cell hh _).trans (Array.getElem?_eq_getElem (by omega))⟩
  go_upto_region 2 with (fail)
  clear c7
  obtain ⟨u, c⟩ : ∃ u, V0.cell? ⟨g, o, none⟩ = some u := ⟨_, (blk_cell hh _).trans (Array.getElem?_eq_getElem (by (try simp only [Array.size_setIfInBounds]); omega))⟩
  have f := blk_frozen hh (o)
  have E1 := Lib.hid (And.intro hh (And.intro BW OW))
  clear hh BW OW
  go_upto_region 3 with (fail)
  obtain ⟨hh, BW, OW⟩ := E1.out
  replace hh : (V0.setCell ⟨g, o, none⟩ (.int .u8 (v / 72057594037927936 % 256))).heap[g]? = some (.cells (cur.setIfInBounds (o) (.int .u8 (v / 72057594037927936 % 256))) 5 (0, 0)) := blk_set hh (o) (.int .u8 (v / 72057594037927936 % 256))
  replace BW := BW.setCell (p := ⟨g, o, none⟩) (Nat.le_refl _) (.int .u8 (v / 72057594037927936 % 256))
  replace OW := OW.set (i := o) (.int .u8 (v / 72057594037927936 % 256))
  clear c f E1
  generalize V0.setCell ⟨g, o, none⟩ (.int .u8 (v / 72057594037927936 % 256)) = V1 at hh BW OW ⊢
  obtain ⟨u, c⟩ : ∃ u, V1.cell? ⟨g, o + 1, none⟩ = some u := ⟨_, (blk_cell hh _).trans (Array.getElem?_eq_getElem (by (try simp only [Array.size_setIfInBounds]); omega))⟩
  have f := blk_frozen hh (o + 1)
  have E1 := Lib.hid (And.intro hh (And.intro BW OW))
  clear hh BW OW
  go_upto_region 4 with (fail)
  obtain ⟨hh, BW, OW⟩ := E1.out
  replace hh : (V1.setCell ⟨g, o + 1, none⟩ (.int .u8 (v / 281474976710656 % 256))).heap[g]? = some (.cells ((cur.setIfInBounds (o) (.int .u8 (v / 72057594037927936 % 256))).setIfInBounds (o + 1) (.int .u8 (v / 281474976710656 % 256))) 5 (0, 0)) := blk_set hh (o + 1) (.int .u8 (v / 281474976710656 % 256))
  replace BW := BW.setCell (p := ⟨g, o + 1, none⟩) (Nat.le_refl _) (.int .u8 (v / 281474976710656 % 256))
  replace OW := OW.set (i := o + 1) (.int .u8 (v / 281474976710656 % 256))
  clear c f E1
  generalize V1.setCell ⟨g, o + 1, none⟩ (.int .u8 (v / 281474976710656 % 256)) = V2 at hh BW OW ⊢
  obtain ⟨u, c⟩ : ∃ u, V2.cell? ⟨g, o + 2, none⟩ = some u := ⟨_, (blk_cell hh _).trans (Array.getElem?_eq_getElem (by (try simp only [Array.size_setIfInBounds]); omega))⟩
  have f := blk_frozen hh (o + 2)
  have E1 := Lib.hid (And.intro hh (And.intro BW OW))
  clear hh BW OW
  go_upto_region 5 with (fail)
  obtain ⟨hh, BW, OW⟩ := E1.out
  replace hh : (V2.setCell ⟨g, o + 2, none⟩ (.int .u8 (v / 1099511627776 % 256))).heap[g]? = some (.cells (((cur.setIfInBounds (o) (.int .u8 (v / 72057594037927936 % 256))).setIfInBounds (o + 1) (.int .u8 (v / 281474976710656 % 256))).setIfInBounds (o + 2) (.int .u8 (v / 1099511627776 % 256))) 5 (0, 0)) := blk_set hh (o + 2) (.int .u8 (v / 1099511627776 % 256))
  replace BW := BW.setCell (p := ⟨g, o + 2, none⟩) (Nat.le_refl _) (.int .u8 (v / 1099511627776 % 256))
  replace OW := OW.set (i := o + 2) (.int .u8 (v / 1099511627776 % 256))
  clear c f E1
  generalize V2.setCell ⟨g, o + 2, none⟩ (.int .u8 (v / 1099511627776 % 256)) = V3 at hh BW OW ⊢
  obtain ⟨u, c⟩ : ∃ u, V3.cell? ⟨g, o + 3, none⟩ = some u := ⟨_, (blk_cell hh _).trans (Array.getElem?_eq_getElem (by (try simp only [Array.size_setIfInBounds]); omega))⟩
  have f := blk_frozen hh (o + 3)
  have E1 := Lib.hid (And.intro hh (And.intro BW OW))
  clear hh BW OW
  go_upto_region 6 with (fail)
  obtain ⟨hh, BW, OW⟩ := E1.out
  replace hh : (V3.setCell ⟨g, o + 3, none⟩ (.int .u8 (v / 4294967296 % 256))).heap[g]? = some (.cells ((((cur.setIfInBounds (o) (.int .u8 (v / 72057594037927936 % 256))).setIfInBounds (o + 1) (.int .u8 (v / 281474976710656 % 256))).setIfInBounds (o + 2) (.int .u8 (v / 1099511627776 % 256))).setIfInBounds (o + 3) (.int .u8 (v / 4294967296 % 256))) 5 (0, 0)) := blk_set hh (o + 3) (.int .u8 (v / 4294967296 % 256))
  replace BW := BW.setCell (p := ⟨g, o + 3, none⟩) (Nat.le_refl _) (.int .u8 (v / 4294967296 % 256))
  replace OW := OW.set (i := o + 3) (.int .u8 (v / 4294967296 % 256))
  clear c f E1
  generalize V3.setCell ⟨g, o + 3, none⟩ (.int .u8 (v / 4294967296 % 256)) = V4 at hh BW OW ⊢
  obtain ⟨u, c⟩ : ∃ u, V4.cell? ⟨g, o + 4, none⟩ = some u := ⟨_, (blk_cell hh _).trans (Array.getElem?_eq_getElem (by (try simp only [Array.size_setIfInBounds]); omega))⟩
  have f := blk_frozen hh (o + 4)
  have E1 := Lib.hid (And.intro hh (And.intro BW OW))
  clear hh BW OW
  go_upto_region 7 with (fail)
  obtain ⟨hh, BW, OW⟩ := E1.out
  replace hh : (V4.setCell ⟨g, o + 4, none⟩ (.int .u8 (v / 16777216 % 256))).heap[g]? = some (.cells (((((cur.setIfInBounds (o) (.int .u8 (v / 72057594037927936 % 256))).setIfInBounds (o + 1) (.int .u8 (v / 281474976710656 % 256))).setIfInBounds (o + 2) (.int .u8 (v / 1099511627776 % 256))).setIfInBounds (o + 3) (.int .u8 (v / 4294967296 % 256))).setIfInBounds (o + 4) (.int .u8 (v / 16777216 % 256))) 5 (0, 0)) := blk_set hh (o + 4) (.int .u8 (v / 16777216 % 256))
  replace BW := BW.setCell (p := ⟨g, o + 4, none⟩) (Nat.le_refl _) (.int .u8 (v / 16777216 % 256))
  replace OW := OW.set (i := o + 4) (.int .u8 (v / 16777216 % 256))
  clear c f E1
  generalize V4.setCell ⟨g, o + 4, none⟩ (.int .u8 (v / 16777216 % 256)) = V5 at hh BW OW ⊢
  obtain ⟨u, c⟩ : ∃ u, V5.cell? ⟨g, o + 5, none⟩ = some u := ⟨_, (blk_cell hh _).trans (Array.getElem?_eq_getElem (by (try simp only [Array.size_setIfInBounds]); omega))⟩
  have f := blk_frozen hh (o + 5)
  have E1 := Lib.hid (And.intro hh (And.intro BW OW))
  clear hh BW OW
  go_upto_region 8 with (fail)
  obtain ⟨hh, BW, OW⟩ := E1.out
  replace hh : (V5.setCell ⟨g, o + 5, none⟩ (.int .u8 (v / 65536 % 256))).heap[g]? = some (.cells ((((((cur.setIfInBounds (o) (.int .u8 (v / 72057594037927936 % 256))).setIfInBounds (o + 1) (.int .u8 (v / 281474976710656 % 256))).setIfInBounds (o + 2) (.int .u8 (v / 1099511627776 % 256))).setIfInBounds (o + 3) (.int .u8 (v / 4294967296 % 256))).setIfInBounds (o + 4) (.int .u8 (v / 16777216 % 256))).setIfInBounds (o + 5) (.int .u8 (v / 65536 % 256))) 5 (0, 0)) := blk_set hh (o + 5) (.int .u8 (v / 65536 % 256))
  replace BW := BW.setCell (p := ⟨g, o + 5, none⟩) (Nat.le_refl _) (.int .u8 (v / 65536 % 256))
  replace OW := OW.set (i := o + 5) (.int .u8 (v / 65536 % 256))
  clear c f E1
  generalize V5.setCell ⟨g, o + 5, none⟩ (.int .u8 (v / 65536 % 256)) = V6 at hh BW OW ⊢
  obtain ⟨u, c⟩ : ∃ u, V6.cell? ⟨g, o + 6, none⟩ = some u := ⟨_, (blk_cell hh _).trans (Array.getElem?_eq_getElem (by (try simp only [Array.size_setIfInBounds]); omega))⟩
  have f := blk_frozen hh (o + 6)
  have E1 := Lib.hid (And.intro hh (And.intro BW OW))
  clear hh BW OW
  go_upto_region 9 with (fail)
  obtain ⟨hh, BW, OW⟩ := E1.out
  replace hh : (V6.setCell ⟨g, o + 6, none⟩ (.int .u8 (v / 256 % 256))).heap[g]? = some (.cells (((((((cur.setIfInBounds (o) (.int .u8 (v / 72057594037927936 % 256))).setIfInBounds (o + 1) (.int .u8 (v / 281474976710656 % 256))).setIfInBounds (o + 2) (.int .u8 (v / 1099511627776 % 256))).setIfInBounds (o + 3) (.int .u8 (v / 4294967296 % 256))).setIfInBounds (o + 4) (.int .u8 (v / 16777216 % 256))).setIfInBounds (o + 5) (.int .u8 (v / 65536 % 256))).setIfInBounds (o + 6) (.int .u8 (v / 256 % 256))) 5 (0, 0)) := blk_set hh (o + 6) (.int .u8 (v / 256 % 256))
  replace BW := BW.setCell (p := ⟨g, o + 6, none⟩) (Nat.le_refl _) (.int .u8 (v / 256 % 256))
  replace OW := OW.set (i := o + 6) (.int .u8 (v / 256 % 256))
  clear c f E1
  generalize V6.setCell ⟨g, o + 6, none⟩ (.int .u8 (v / 256 % 256)) = V7 at hh BW OW ⊢
  obtain ⟨u, c⟩ : ∃ u, V7.cell? ⟨g, o + 7, none⟩ = some u := ⟨_, (blk_cell hh _).trans (Array.getElem?_eq_getElem (by (try simp only [Array.size_setIfInBounds]); omega))⟩
  have f := blk_frozen hh (o + 7)
  have E1 := Lib.hid (And.intro hh (And.intro BW OW))
  clear hh BW OW
  go_wp2_with fail
  obtain ⟨hh, BW, OW⟩ := E1.out
  replace hh : (V7.setCell ⟨g, o + 7, none⟩ (.int .u8 (v % 256))).heap[g]? = some (.cells ((((((((cur.setIfInBounds (o) (.int .u8 (v / 72057594037927936 % 256))).setIfInBounds (o + 1) (.int .u8 (v / 281474976710656 % 256))).setIfInBounds (o + 2) (.int .u8 (v / 1099511627776 % 256))).setIfInBounds (o + 3) (.int .u8 (v / 4294967296 % 256))).setIfInBounds (o + 4) (.int .u8 (v / 16777216 % 256))).setIfInBounds (o + 5) (.int .u8 (v / 65536 % 256))).setIfInBounds (o + 6) (.int .u8 (v / 256 % 256))).setIfInBounds (o + 7) (.int .u8 (v % 256))) 5 (0, 0)) := blk_set hh (o + 7) (.int .u8 (v % 256))
  replace BW := BW.setCell (p := ⟨g, o + 7, none⟩) (Nat.le_refl _) (.int .u8 (v % 256))
  replace OW := OW.set (i := o + 7) (.int .u8 (v % 256))
  clear c f E1
  generalize V7.setCell ⟨g, o + 7, none⟩ (.int .u8 (v % 256)) = V8 at hh BW OW ⊢
  refine bodyPost_end (results_none rfl _ _ _) rfl ?_
  exact ⟨rfl, hh, BW, OW⟩
end Go.Proofs.Ytiifnofghicnaaa.BAll
