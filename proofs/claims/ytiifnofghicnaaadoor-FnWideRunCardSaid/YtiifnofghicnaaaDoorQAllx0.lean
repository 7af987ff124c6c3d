/- Printed by the kit's print.py, called for several laws at once: functions as plain Lean, and the walks' contracts. -/
import Derived.Test.YtiifnofghicnaaaDoorProg
import Derived.Below
import Derived.Deep.Draws
import Derived.Deep.AppendLies
import Derived.Maps.AppendAt
import Derived.OwnWalk
import Derived.Laws.BytesArg
import Derived.Laws.MakeOwn
import Derived.Laws.OwnMore
import Derived.Deep.OwnRows
import Derived.Tactics
import Derived.Lib.ConvBytes
import Derived.Laws.Slices
import Derived.WalkKit
import Derived.KernelRfl
import Derived.RowKit3
import Derived.Deep.LoopGhost
import Derived.Deep.QuietTactic
import Derived.BigQuiet
import Derived.WideLaws
import Derived.Deep.DeepCutAuto
import Derived.Deep.CutBlock
import Derived.Deep.RegionHeld3
import Derived.Laws.Rows
import Derived.Lib.AppendStr
import Derived.ArgAppend
import Derived.Laws.IdiomCopy
import Derived.OrdersHeld
import Derived.Laws.BitsLemmas
import Derived.RowKit
import Derived.Test.YtiifnofghicnaaaDoorDig
import Derived.Lib.Hide
import Derived.WalkLawsBesides
import Derived.Recover
import Derived.Defers
import Derived.Test.YtiifnofghicnaaaDoorWWords
import Derived.Test.YtiifnofghicnaaaDoorWLast
import Derived.Test.YtiifnofghicnaaaDoorWTab
import Derived.Test.YtiifnofghicnaaaDoorWFour
import Derived.Test.YtiifnofghicnaaaDoorWQPut
import Derived.Test.YtiifnofghicnaaaDoorWApart
import Derived.Test.YtiifnofghicnaaaDoorWArr
import Derived.Test.YtiifnofghicnaaaDoorWZeros
import Derived.Test.YtiifnofghicnaaaDoorWFoot
import Derived.Test.YtiifnofghicnaaaDoorWKept
import Derived.Test.YtiifnofghicnaaaDoorWShare
import Derived.Test.YtiifnofghicnaaaDoorWN
import Derived.Test.YtiifnofghicnaaaDoorWFootNe
import Derived.Test.YtiifnofghicnaaaDoorWAt
import Derived.Test.YtiifnofghicnaaaDoorWEqStruct
import Derived.Test.YtiifnofghicnaaaDoorWRepsOne
import Derived.Test.YtiifnofghicnaaaDoorWInv
import Derived.Test.YtiifnofghicnaaaDoorWInvWords
import Derived.Test.YtiifnofghicnaaaDoorWGuard
import Derived.Test.YtiifnofghicnaaaDoorWNEv
import Derived.Test.YtiifnofghicnaaaDoorWMore
namespace Go.Proofs.YtiifnofghicnaaaDoor.PAll
open Go.RowKit Go.Proofs.YtiifnofghicnaaaDoorW.PrintWords Go.Proofs.YtiifnofghicnaaaDoorW.PrintLast Go.Proofs.YtiifnofghicnaaaDoorW.PrintMore
attribute [local go_sem] max2_int min2_int max_two min_two max_three min_three max_four min_four   -- for this text's walks alone
set_option linter.unusedVariables false
set_option linter.unusedSimpArgs false
def errW : Option Int → Value
  | none => .nilIface
  | some c => .iface 0 (.int .i64 c)
theorem errW_none : errW none = .nilIface := rfl
theorem errW_some (c : Int) : errW (some c) = .iface 0 (.int .i64 c) := rfl
theorem info3 : (Tryd.prog.info? 3).map (fun i => (i.zero, i.size, i.bytes)) = some (some (.int .i64 0), 1, 8) := by kernel_rfl
-- the values' own types
theorem eqA24 (d : Nat) (w : World) (x0 y0 : Int) (x1 y1 : Int) :
    (Op.equalIn (d + 2) 24 (.agg #[.int .u64 x0, .int .u64 x1]) (.agg #[.int .u64 y0, .int .u64 y1])).run Tryd.prog w = .ok (x0 == y0 && (x1 == y1)) w := by
  refine eqA_of Tryd.underlying24 (by kernel_rfl) ?_
  refine eqf_cons (by rfl) (by go_simp; rfl) (by go_simp; rfl) (by go_simp) ?_
  exact eqf_last (by rfl) (by go_simp; rfl) (by go_simp; rfl) (by go_simp)
theorem eqA65 (d : Nat) (w : World) (x0 y0 : Int) (x1 y1 : Int) :
    (Op.equalIn (d + 2) 65 (.agg #[.int .u64 x0, .int .u64 x1]) (.agg #[.int .u64 y0, .int .u64 y1])).run Tryd.prog w = .ok (x0 == y0 && (x1 == y1)) w := by
  refine eqA_of Tryd.underlying65 (by kernel_rfl) ?_
  refine eqf_cons (by rfl) (by go_simp; rfl) (by go_simp; rfl) (by go_simp) ?_
  exact eqf_last (by rfl) (by go_simp; rfl) (by go_simp; rfl) (by go_simp)
end Go.Proofs.YtiifnofghicnaaaDoor.PAll
