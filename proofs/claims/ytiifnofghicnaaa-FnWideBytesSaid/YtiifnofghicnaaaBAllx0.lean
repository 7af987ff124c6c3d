/- Printed by the kit's print.py, called for several laws at once: functions as plain Lean, and the walks' contracts. -/
import Derived.Test.YtiifnofghicnaaaProg
import Derived.Below
import Derived.Deep.Draws
import Derived.Deep.AppendLies
import Derived.Maps.AppendAt
import Derived.OwnWalk
import Derived.Laws.BytesArg
import Derived.Laws.MakeOwn
import Derived.Laws.OwnMore
import Derived.Deep.OwnRows
import Derived.Tactics
import Derived.Lib.ConvBytes
import Derived.Laws.Slices
import Derived.WalkKit
import Derived.KernelRfl
import Derived.RowKit3
import Derived.Deep.LoopGhost
import Derived.Deep.QuietTactic
import Derived.BigQuiet
import Derived.WideLaws
import Derived.Deep.DeepCutAuto
import Derived.Deep.CutBlock
import Derived.Deep.RegionHeld3
import Derived.Laws.Rows
import Derived.Lib.AppendStr
import Derived.ArgAppend
import Derived.Laws.IdiomCopy
import Derived.OrdersHeld
import Derived.Laws.BitsLemmas
import Derived.RowKit
import Derived.Test.YtiifnofghicnaaaDig
import Derived.Lib.Hide
import Derived.WalkLawsBesides
import Derived.Recover
import Derived.Defers
import Derived.Test.YtiifnofghicnaaaByCon
import Derived.Test.YtiifnofghicnaaaWWords
import Derived.Test.YtiifnofghicnaaaWLast
import Derived.Test.YtiifnofghicnaaaWTab
import Derived.Test.YtiifnofghicnaaaWFour
import Derived.Test.YtiifnofghicnaaaWQPut
import Derived.Test.YtiifnofghicnaaaWApart
import Derived.Test.YtiifnofghicnaaaWArr
import Derived.Test.YtiifnofghicnaaaWZeros
import Derived.Test.YtiifnofghicnaaaWFoot
import Derived.Test.YtiifnofghicnaaaWKept
import Derived.Test.YtiifnofghicnaaaWShare
import Derived.Test.YtiifnofghicnaaaWN
import Derived.Test.YtiifnofghicnaaaWFootNe
import Derived.Test.YtiifnofghicnaaaWAt
import Derived.Test.YtiifnofghicnaaaWEqStruct
import Derived.Test.YtiifnofghicnaaaWRepsOne
import Derived.Test.YtiifnofghicnaaaWInv
import Derived.Test.YtiifnofghicnaaaWInvWords
import Derived.Test.YtiifnofghicnaaaWGuard
import Derived.Test.YtiifnofghicnaaaWNEv
import Derived.Test.YtiifnofghicnaaaWMore
namespace Go.Proofs.Ytiifnofghicnaaa.BAll
open Go.RowKit Go.Proofs.YtiifnofghicnaaaW.PrintWords Go.Proofs.YtiifnofghicnaaaW.PrintLast Go.Proofs.YtiifnofghicnaaaW.PrintMore
attribute [local go_sem] max2_int min2_int max_two min_two max_three min_three max_four min_four   -- for this text's walks alone
set_option linter.unusedVariables false
set_option linter.unusedSimpArgs false
def errW : Option Int → Value
  | none => .nilIface
  | some c => .iface 0 (.int .i64 c)
theorem errW_none : errW none = .nilIface := rfl
theorem errW_some (c : Int) : errW (some c) = .iface 0 (.int .i64 c) := rfl
theorem info3 : (Try.prog.info? 3).map (fun i => (i.zero, i.size, i.bytes)) = some (some (.int .i64 0), 1, 8) := by kernel_rfl
theorem info5 : (Try.prog.info? 5).map (fun i => (i.zero, i.size, i.bytes)) = some (some (.int .u8 0), 1, 1) := by kernel_rfl
-- the values' own types
end Go.Proofs.Ytiifnofghicnaaa.BAll
