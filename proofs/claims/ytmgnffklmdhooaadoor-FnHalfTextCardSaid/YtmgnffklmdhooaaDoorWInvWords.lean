
import Derived.Test.YtmgnffklmdhooaaDoorWInv
import Derived.Test.YtmgnffklmdhooaaDoorWFootNe
namespace Go.Proofs.YtmgnffklmdhooaaDoorW.PrintWords
open Go.RowKit
end Go.Proofs.YtmgnffklmdhooaaDoorW.PrintWords
namespace Go.Proofs.YtmgnffklmdhooaaDoorW.PrintLast
section
variable {ops : Array Oper} {a : Act} {o og : Oper} {g : Nat} {t : Tmp} {u : Bool}
end
end Go.Proofs.YtmgnffklmdhooaaDoorW.PrintLast
