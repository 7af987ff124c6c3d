
import Derived.Test.YtjmgiodkfgdgnaaWInv
import Derived.Test.YtjmgiodkfgdgnaaWFootNe
namespace Go.Proofs.YtjmgiodkfgdgnaaW.PrintWords
open Go.RowKit
end Go.Proofs.YtjmgiodkfgdgnaaW.PrintWords
namespace Go.Proofs.YtjmgiodkfgdgnaaW.PrintLast
section
variable {ops : Array Oper} {a : Act} {o og : Oper} {g : Nat} {t : Tmp} {u : Bool}
end
end Go.Proofs.YtjmgiodkfgdgnaaW.PrintLast
