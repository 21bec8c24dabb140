-- Out of a text that print.sh wrote for this seat, what this claim needs of it (wip/tools/slim.py); Lean checks it.
import Derived.Test.YtfhcpniibiobgaaDoorWFootNe
namespace Go.Proofs.YtfhcpniibiobgaaDoorW.PrintWords
open Go.RowKit
section
variable {w w' u : World} {m B g : Nat} {o : Obj} {row : Option Nat} {S : Nat → Prop} {a : Addr} {v : Value}
end
namespace Kd
section
variable {α : Type} {d : Kd α} {e base n m : Nat} {ok : Nat → Prop} {w w' : World} {v : Value} {A : Option Addr} {xs : List α}
end
end Kd
end Go.Proofs.YtfhcpniibiobgaaDoorW.PrintWords
