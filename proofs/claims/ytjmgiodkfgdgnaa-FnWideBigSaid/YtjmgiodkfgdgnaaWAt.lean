
import Derived.Test.YtjmgiodkfgdgnaaWFootNe
namespace Go.Proofs.YtjmgiodkfgdgnaaW.PrintWords
open Go.RowKit
section
variable {w w' u : World} {m B g : Nat} {o : Obj} {row : Option Nat} {S : Nat → Prop} {a : Addr} {v : Value}
end
namespace Kd
section
variable {α : Type} {d : Kd α} {e base n m : Nat} {ok : Nat → Prop} {w w' : World} {v : Value} {A : Option Addr} {xs : List α}
end
end Kd
end Go.Proofs.YtjmgiodkfgdgnaaW.PrintWords
