
import Derived.Test.YtjmgiodkfgdgnaaWN
namespace Go.Proofs.YtjmgiodkfgdgnaaW.PrintWords
open Go.RowKit
namespace Kd
section
variable {α : Type} {d : Kd α} {W : World} {g n : Nat} {S ok : Nat → Prop} {A : Option Addr} {ad : Addr} {xs : List α}
end
end Kd
end Go.Proofs.YtjmgiodkfgdgnaaW.PrintWords
