
import Derived.Test.YtjmgiodkfgdgnaaWTab
namespace Go.Proofs.YtjmgiodkfgdgnaaW.PrintLast
section
variable {P : Program} {ops : Array Oper} {Q : Exit → Act → World → Prop} {md : Region.Mode} {S : World → Prop} {ds : List Nat} {T : Bool × List (List Nat × List Nat)}
end
end Go.Proofs.YtjmgiodkfgdgnaaW.PrintLast
