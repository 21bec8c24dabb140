-- Out of a text that print.sh wrote for this seat, what this claim needs of it (wip/tools/slim.py); Lean checks it.
import Derived.Test.YtfhcpniibiobgaaDoorWN
namespace Go.Proofs.YtfhcpniibiobgaaDoorW.PrintWords
open Go.RowKit
namespace Kd
section
variable {α : Type} {d : Kd α} {W : World} {g n : Nat} {S ok : Nat → Prop} {A : Option Addr} {ad : Addr} {xs : List α}
end
end Kd
end Go.Proofs.YtfhcpniibiobgaaDoorW.PrintWords
