/- Printed by the kit's print.py, called for several laws at once: functions as plain Lean, and the walks' contracts. -/
import Derived.Test.YtjmgiodkfgdgnaaProg
import Derived.Below
import Derived.Deep.Draws
import Derived.Deep.AppendLies
import Derived.Maps.AppendAt
import Derived.OwnWalk
import Derived.Laws.BytesArg
import Derived.Laws.MakeOwn
import Derived.Laws.OwnMore
import Derived.Deep.OwnRows
import Derived.Tactics
import Derived.Lib.ConvBytes
import Derived.Laws.Slices
import Derived.WalkKit
import Derived.KernelRfl
import Derived.RowKit3
import Derived.Deep.LoopGhost
import Derived.Deep.QuietTactic
import Derived.BigQuiet
import Derived.WideLaws
import Derived.Deep.DeepCutAuto
import Derived.Deep.CutBlock
import Derived.Deep.RegionHeld3
import Derived.Laws.Rows
import Derived.Lib.AppendStr
import Derived.ArgAppend
import Derived.Laws.IdiomCopy
import Derived.OrdersHeld
import Derived.Laws.BitsLemmas
import Derived.RowKit
import Derived.Lib.Hide
import Derived.WalkLawsBesides
import Derived.Recover
import Derived.Defers
import Derived.Test.YtjmgiodkfgdgnaaWWords
import Derived.Test.YtjmgiodkfgdgnaaWLast
import Derived.Test.YtjmgiodkfgdgnaaWTab
import Derived.Test.YtjmgiodkfgdgnaaWFour
import Derived.Test.YtjmgiodkfgdgnaaWQPut
import Derived.Test.YtjmgiodkfgdgnaaWApart
import Derived.Test.YtjmgiodkfgdgnaaWArr
import Derived.Test.YtjmgiodkfgdgnaaWZeros
import Derived.Test.YtjmgiodkfgdgnaaWFoot
import Derived.Test.YtjmgiodkfgdgnaaWKept
import Derived.Test.YtjmgiodkfgdgnaaWShare
import Derived.Test.YtjmgiodkfgdgnaaWN
import Derived.Test.YtjmgiodkfgdgnaaWFootNe
import Derived.Test.YtjmgiodkfgdgnaaWAt
import Derived.Test.YtjmgiodkfgdgnaaWEqStruct
import Derived.Test.YtjmgiodkfgdgnaaWRepsOne
import Derived.Test.YtjmgiodkfgdgnaaWInv
import Derived.Test.YtjmgiodkfgdgnaaWInvWords
import Derived.Test.YtjmgiodkfgdgnaaWGuard
import Derived.Test.YtjmgiodkfgdgnaaWNEv
import Derived.Test.YtjmgiodkfgdgnaaWMore
namespace Go.Proofs.Ytjmgiodkfgdgnaa.PAll
open Go.RowKit Go.Proofs.YtjmgiodkfgdgnaaW.PrintWords Go.Proofs.YtjmgiodkfgdgnaaW.PrintLast Go.Proofs.YtjmgiodkfgdgnaaW.PrintMore
attribute [local go_sem] max2_int min2_int max_two min_two max_three min_three max_four min_four   -- for this text's walks alone
set_option linter.unusedVariables false
set_option linter.unusedSimpArgs false



def errW : Option Int → Value
  | none => .nilIface
  | some c => .iface 0 (.int .i64 c)
theorem errW_none : errW none = .nilIface := rfl
theorem errW_some (c : Int) : errW (some c) = .iface 0 (.int .i64 c) := rfl

-- the values' own types

end Go.Proofs.Ytjmgiodkfgdgnaa.PAll
