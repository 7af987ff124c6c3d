/- Printed by the kit's print.py, called for several laws at once: functions as plain Lean, and the walks' contracts. -/
import Derived.Test.YtmgnffklmdhooaaDoorProg
import Derived.Below
import Derived.Deep.Draws
import Derived.Deep.AppendLies
import Derived.Maps.AppendAt
import Derived.OwnWalk
import Derived.Laws.BytesArg
import Derived.Laws.MakeOwn
import Derived.Laws.OwnMore
import Derived.Deep.OwnRows
import Derived.Tactics
import Derived.Lib.ConvBytes
import Derived.Laws.Slices
import Derived.WalkKit
import Derived.KernelRfl
import Derived.RowKit3
import Derived.Deep.LoopGhost
import Derived.Deep.QuietTactic
import Derived.BigQuiet
import Derived.WideLaws
import Derived.Deep.DeepCutAuto
import Derived.Deep.CutBlock
import Derived.Deep.RegionHeld3
import Derived.Laws.Rows
import Derived.Lib.AppendStr
import Derived.ArgAppend
import Derived.Laws.IdiomCopy
import Derived.OrdersHeld
import Derived.Laws.BitsLemmas
import Derived.RowKit
import Derived.Lib.Hide
import Derived.WalkLawsBesides
import Derived.Test.YtmgnffklmdhooaaDoorWWords
import Derived.Test.YtmgnffklmdhooaaDoorWLast
import Derived.Test.YtmgnffklmdhooaaDoorWTab
import Derived.Test.YtmgnffklmdhooaaDoorWFour
import Derived.Test.YtmgnffklmdhooaaDoorWQPut
import Derived.Test.YtmgnffklmdhooaaDoorWApart
import Derived.Test.YtmgnffklmdhooaaDoorWArr
import Derived.Test.YtmgnffklmdhooaaDoorWZeros
import Derived.Test.YtmgnffklmdhooaaDoorWFoot
import Derived.Test.YtmgnffklmdhooaaDoorWKept
import Derived.Test.YtmgnffklmdhooaaDoorWShare
import Derived.Test.YtmgnffklmdhooaaDoorWN
import Derived.Test.YtmgnffklmdhooaaDoorWFootNe
import Derived.Test.YtmgnffklmdhooaaDoorWAt
import Derived.Test.YtmgnffklmdhooaaDoorWEqStruct
import Derived.Test.YtmgnffklmdhooaaDoorWRepsOne
import Derived.Test.YtmgnffklmdhooaaDoorWInv
import Derived.Test.YtmgnffklmdhooaaDoorWInvWords
import Derived.Test.YtmgnffklmdhooaaDoorWGuard
import Derived.Test.YtmgnffklmdhooaaDoorWNEv
import Derived.Test.YtmgnffklmdhooaaDoorWMore
namespace Go.Proofs.YtmgnffklmdhooaaDoor.PAll
open Go.RowKit Go.Proofs.YtmgnffklmdhooaaDoorW.PrintWords Go.Proofs.YtmgnffklmdhooaaDoorW.PrintLast Go.Proofs.YtmgnffklmdhooaaDoorW.PrintMore
attribute [local go_sem] max2_int min2_int max_two min_two max_three min_three max_four min_four   -- for this text's walks alone
set_option linter.unusedVariables false
set_option linter.unusedSimpArgs false



def errW : Option Int → Value
  | none => .nilIface
  | some c => .iface 0 (.int .i64 c)
theorem errW_none : errW none = .nilIface := rfl
theorem errW_some (c : Int) : errW (some c) = .iface 0 (.int .i64 c) := rfl

theorem info3 : (Tryd.prog.info? 3).map (fun i => (i.zero, i.size, i.bytes)) = some (some (.int .i64 0), 1, 8) := by kernel_rfl
end Go.Proofs.YtmgnffklmdhooaaDoor.PAll
