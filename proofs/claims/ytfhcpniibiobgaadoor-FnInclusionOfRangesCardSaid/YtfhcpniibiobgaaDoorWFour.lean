-- Out of a text that print.sh wrote for this seat, what this claim needs of it (wip/tools/slim.py); Lean checks it.
import Derived.Test.YtfhcpniibiobgaaDoorWTab
namespace Go.Proofs.YtfhcpniibiobgaaDoorW.PrintLast
section
variable {P : Program} {ops : Array Oper} {Q : Exit → Act → World → Prop} {md : Region.Mode} {S : World → Prop} {ds : List Nat} {T : Bool × List (List Nat × List Nat)}
end
end Go.Proofs.YtfhcpniibiobgaaDoorW.PrintLast
