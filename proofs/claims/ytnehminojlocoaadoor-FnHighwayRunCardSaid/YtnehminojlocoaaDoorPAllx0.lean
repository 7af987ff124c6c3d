/- Printed by the kit's print.py, called for several laws at once: functions as plain Lean, and the walks' contracts. -/
import Derived.Test.YtnehminojlocoaaDoorProg
import Derived.Below
import Derived.Deep.Draws
import Derived.Deep.AppendLies
import Derived.Maps.AppendAt
import Derived.OwnWalk
import Derived.Laws.BytesArg
import Derived.Laws.MakeOwn
import Derived.Laws.OwnMore
import Derived.Deep.OwnRows
import Derived.Tactics
import Derived.Lib.ConvBytes
import Derived.Laws.Slices
import Derived.WalkKit
import Derived.KernelRfl
import Derived.RowKit3
import Derived.Deep.LoopGhost
import Derived.Deep.QuietTactic
import Derived.BigQuiet
import Derived.WideLaws
import Derived.Deep.DeepCutAuto
import Derived.Deep.CutBlock
import Derived.Deep.RegionHeld3
import Derived.Laws.Rows
import Derived.Lib.AppendStr
import Derived.ArgAppend
import Derived.Laws.IdiomCopy
import Derived.OrdersHeld
import Derived.Laws.BitsLemmas
import Derived.RowKit
import Derived.Lib.Hide
import Derived.WalkLawsBesides
import Derived.Test.YtnehminojlocoaaDoorWWords
import Derived.Test.YtnehminojlocoaaDoorWLast
import Derived.Test.YtnehminojlocoaaDoorWTab
import Derived.Test.YtnehminojlocoaaDoorWFour
import Derived.Test.YtnehminojlocoaaDoorWQPut
import Derived.Test.YtnehminojlocoaaDoorWApart
import Derived.Test.YtnehminojlocoaaDoorWArr
import Derived.Test.YtnehminojlocoaaDoorWZeros
import Derived.Test.YtnehminojlocoaaDoorWFoot
import Derived.Test.YtnehminojlocoaaDoorWKept
import Derived.Test.YtnehminojlocoaaDoorWShare
import Derived.Test.YtnehminojlocoaaDoorWN
import Derived.Test.YtnehminojlocoaaDoorWFootNe
import Derived.Test.YtnehminojlocoaaDoorWAt
import Derived.Test.YtnehminojlocoaaDoorWEqStruct
import Derived.Test.YtnehminojlocoaaDoorWRepsOne
import Derived.Test.YtnehminojlocoaaDoorWInv
import Derived.Test.YtnehminojlocoaaDoorWInvWords
import Derived.Test.YtnehminojlocoaaDoorWGuard
import Derived.Test.YtnehminojlocoaaDoorWNEv
import Derived.Test.YtnehminojlocoaaDoorWMore
namespace Go.Proofs.YtnehminojlocoaaDoor.PAll
open Go.RowKit Go.Proofs.YtnehminojlocoaaDoorW.PrintWords Go.Proofs.YtnehminojlocoaaDoorW.PrintLast Go.Proofs.YtnehminojlocoaaDoorW.PrintMore
attribute [local go_sem] max2_int min2_int max_two min_two max_three min_three max_four min_four   -- for this text's walks alone
set_option linter.unusedVariables false
set_option linter.unusedSimpArgs false



def errW : Option Int → Value
  | none => .nilIface
  | some c => .iface 0 (.int .i64 c)
theorem errW_none : errW none = .nilIface := rfl
theorem errW_some (c : Int) : errW (some c) = .iface 0 (.int .i64 c) := rfl

theorem info5 : (Tryd.prog.info? 5).map (fun i => (i.zero, i.size, i.bytes)) = some (some (.int .u8 0), 1, 1) := by kernel_rfl
-- the values' own types
def rd_L2 (xs : List (List Int)) (i : Int) : (List Int) := xs.getD i.toNat ([] : List Int)
theorem at_L2 {w : World} {A : Option Addr} {n : Nat} {xs : List (List Int)} (h : Kd.C (Kd.slice 5 (Kd.int .u8)) w A n xs) (i : Int) (h0 : 0 ≤ i) (h1 : i < n) : ∃ ad A0 c0, A = some ad ∧ w.cell? (ad.add i.toNat) = some (.slice A0 (rd_L2 xs i).length c0) ∧ (rd_L2 xs i).length ≤ c0 ∧ (Kd.int .u8).C w A0 (rd_L2 xs i).length (rd_L2 xs i) := by
  obtain ⟨ad, c, e, _, hK, hc0⟩ := Kd.C_get h ([] : List Int) i h0 h1
  have hc : ∀ j u, c[j]? = some u → w.cell? (ad.add (i.toNat * 1 + j)) = some u := hc0
  obtain ⟨A0, c0, rfl, l0, g0⟩ := hK
  exact ⟨ad, A0, c0, e, by have hq := hc 0 _ rfl; rwa [Nat.mul_one, Nat.add_zero] at hq, l0, g0⟩

/-! #### struct type 33 -/
structure S33 where
  f0 : Int
  f1 : (List Int)
  f2 : Int
def z33 : S33 := ⟨(0 : Int), ([] : List Int), (0 : Int)⟩
def k33 : Kd S33 := Kd.iso (Kd.pair (Kd.int .u8) (Kd.pair (Kd.slice 5 (Kd.int .u8)) (Kd.int .u64))) (fun x : S33 => (x.f0, x.f1, x.f2))
theorem k33_open {w : World} {x : S33} {cs : List Value} (h : k33.K w x cs) : ∃ A1 c1, cs = [.int .u8 x.f0, .slice A1 x.f1.length c1, .int .u64 x.f2] ∧ x.f1.length ≤ c1 ∧ (Kd.int .u8).C w A1 x.f1.length x.f1 := by
  obtain ⟨_, _, rfl, rfl, ⟨_, _, rfl, ⟨A1, c1, rfl, l1, g1⟩, rfl⟩⟩ := h
  exact ⟨A1, c1, rfl, l1, g1⟩
theorem k33_mk (w : World) (x : S33) {A1 : Option Addr} {c1 : Nat} (l1 : x.f1.length ≤ c1) (g1 : (Kd.int .u8).C w A1 x.f1.length x.f1) : k33.K w x [.int .u8 x.f0, .slice A1 x.f1.length c1, .int .u64 x.f2] := ⟨[.int .u8 x.f0], [.slice A1 x.f1.length c1, .int .u64 x.f2], rfl, rfl, ⟨[.slice A1 x.f1.length c1], [.int .u64 x.f2], rfl, ⟨A1, c1, rfl, l1, g1⟩, rfl⟩⟩
def rd_T33 (xs : List S33) (i : Int) : S33 := xs.getD i.toNat z33
theorem at_T33 {w : World} {A : Option Addr} {n : Nat} {xs : List S33} (h : Kd.C k33 w A n xs) (i : Int) (h0 : 0 ≤ i) (h1 : i < n) : ∃ ad A1 c1, A = some ad ∧ w.cell? (ad.add (i.toNat * 3)) = some (.int .u8 (rd_T33 xs i).f0) ∧ w.cell? ⟨(ad.add (i.toNat * 3)).block, (ad.add (i.toNat * 3)).off + 1, none⟩ = some (.slice A1 (rd_T33 xs i).f1.length c1) ∧ w.cell? ⟨(ad.add (i.toNat * 3)).block, (ad.add (i.toNat * 3)).off + 2, none⟩ = some (.int .u64 (rd_T33 xs i).f2) ∧ (rd_T33 xs i).f1.length ≤ c1 ∧ (Kd.int .u8).C w A1 (rd_T33 xs i).f1.length (rd_T33 xs i).f1 := by
  obtain ⟨ad, c, e, _, hK, hc0⟩ := Kd.C_get h z33 i h0 h1
  have hc : ∀ j u, c[j]? = some u → w.cell? (ad.add (i.toNat * 3 + j)) = some u := hc0
  obtain ⟨A1, c1, rfl, l1, g1⟩ := k33_open hK
  exact ⟨ad, A1, c1, e, hc 0 _ rfl, by rw [← add_field _ _ 1 (by omega)]; exact hc 1 _ rfl, by rw [← add_field _ _ 2 (by omega)]; exact hc 2 _ rfl, l1, g1⟩

end Go.Proofs.YtnehminojlocoaaDoor.PAll
