/- Printed by the kit's print.py, called for several laws at once: functions as plain Lean, and the walks' contracts. -/
import Derived.Test.YtdepcnaiobfpkaaProg
import Derived.Below
import Derived.Deep.Draws
import Derived.Deep.AppendLies
import Derived.Maps.AppendAt
import Derived.OwnWalk
import Derived.Laws.BytesArg
import Derived.Laws.MakeOwn
import Derived.Laws.OwnMore
import Derived.Deep.OwnRows
import Derived.Tactics
import Derived.Lib.ConvBytes
import Derived.Laws.Slices
import Derived.WalkKit
import Derived.KernelRfl
import Derived.RowKit3
import Derived.Deep.LoopGhost
import Derived.Deep.QuietTactic
import Derived.BigQuiet
import Derived.WideLaws
import Derived.Deep.DeepCutAuto
import Derived.Deep.CutBlock
import Derived.Deep.RegionHeld3
import Derived.Laws.Rows
import Derived.Lib.AppendStr
import Derived.ArgAppend
import Derived.Laws.IdiomCopy
import Derived.OrdersHeld
import Derived.Laws.BitsLemmas
import Derived.RowKit
import Derived.Lib.Hide
import Derived.WalkLawsBesides
import Derived.Test.YtdepcnaiobfpkaaWWords
import Derived.Test.YtdepcnaiobfpkaaWLast
import Derived.Test.YtdepcnaiobfpkaaWTab
import Derived.Test.YtdepcnaiobfpkaaWFour
import Derived.Test.YtdepcnaiobfpkaaWQPut
import Derived.Test.YtdepcnaiobfpkaaWApart
import Derived.Test.YtdepcnaiobfpkaaWArr
import Derived.Test.YtdepcnaiobfpkaaWZeros
import Derived.Test.YtdepcnaiobfpkaaWFoot
import Derived.Test.YtdepcnaiobfpkaaWKept
import Derived.Test.YtdepcnaiobfpkaaWShare
import Derived.Test.YtdepcnaiobfpkaaWN
import Derived.Test.YtdepcnaiobfpkaaWFootNe
import Derived.Test.YtdepcnaiobfpkaaWAt
import Derived.Test.YtdepcnaiobfpkaaWEqStruct
import Derived.Test.YtdepcnaiobfpkaaWRepsOne
import Derived.Test.YtdepcnaiobfpkaaWInv
import Derived.Test.YtdepcnaiobfpkaaWInvWords
import Derived.Test.YtdepcnaiobfpkaaWGuard
import Derived.Test.YtdepcnaiobfpkaaWNEv
import Derived.Test.YtdepcnaiobfpkaaWMore
namespace Go.Proofs.Ytdepcnaiobfpkaa.NAll
open Go.RowKit Go.Proofs.YtdepcnaiobfpkaaW.PrintWords Go.Proofs.YtdepcnaiobfpkaaW.PrintLast Go.Proofs.YtdepcnaiobfpkaaW.PrintMore
attribute [local go_sem] max2_int min2_int max_two min_two max_three min_three max_four min_four   -- for this text's walks alone
set_option linter.unusedVariables false
set_option linter.unusedSimpArgs false



def errW : Option Int → Value
  | none => .nilIface
  | some c => .iface 0 (.int .i64 c)
theorem errW_none : errW none = .nilIface := rfl
theorem errW_some (c : Int) : errW (some c) = .iface 0 (.int .i64 c) := rfl

-- the values' own types

end Go.Proofs.Ytdepcnaiobfpkaa.NAll
