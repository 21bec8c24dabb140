-- Out of a text that print.sh wrote for this seat, what this claim needs of it (wip/tools/slim.py); Lean checks it.
import Derived.Test.YtfhcpniibiobgaaDoorWInv
import Derived.Test.YtfhcpniibiobgaaDoorWFootNe
namespace Go.Proofs.YtfhcpniibiobgaaDoorW.PrintWords
open Go.RowKit
end Go.Proofs.YtfhcpniibiobgaaDoorW.PrintWords
namespace Go.Proofs.YtfhcpniibiobgaaDoorW.PrintLast
section
variable {ops : Array Oper} {a : Act} {o og : Oper} {g : Nat} {t : Tmp} {u : Bool}
end
end Go.Proofs.YtfhcpniibiobgaaDoorW.PrintLast
