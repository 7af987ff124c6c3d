
import Derived.Test.YtnehminojlocoaaDoorWInv
import Derived.Test.YtnehminojlocoaaDoorWFootNe
namespace Go.Proofs.YtnehminojlocoaaDoorW.PrintWords
open Go.RowKit
end Go.Proofs.YtnehminojlocoaaDoorW.PrintWords
namespace Go.Proofs.YtnehminojlocoaaDoorW.PrintLast
section
variable {ops : Array Oper} {a : Act} {o og : Oper} {g : Nat} {t : Tmp} {u : Bool}
end
end Go.Proofs.YtnehminojlocoaaDoorW.PrintLast
