-- Out of a text that print.sh wrote for this seat, what this claim needs of it (wip/tools/prune.py); Lean checks it.
import Derived.Test.YtfhcpniibiobgaaDoorWWords
/-! ### 58. A guarded operation whose guard is known to want it: the same goal without the guard -/
namespace Go.Proofs.YtfhcpniibiobgaaDoorW.PrintWords
open Go.RowKit
section
variable {P : Program} {ops : Array Oper} {rest : List Oper} {o : Oper} {a : Act} {Q : Exit → Act → World → Prop} {W : World}
end
end Go.Proofs.YtfhcpniibiobgaaDoorW.PrintWords
