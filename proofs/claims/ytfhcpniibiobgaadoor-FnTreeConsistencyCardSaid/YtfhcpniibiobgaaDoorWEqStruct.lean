-- Out of a text that print.sh wrote for this seat, what this claim needs of it (wip/tools/prune.py); Lean checks it.
import Derived.Test.YtfhcpniibiobgaaDoorWWords
import Derived.Laws.StructEq
/-! ### 53. '==' of structs as_ one Bool -/
namespace Go.Proofs.YtfhcpniibiobgaaDoorW.PrintWords
open Go.RowKit
section
variable {P : Program} {d : Nat} {xs ys : Array Value} {f : Field} {fs : List Field} {a b : Value} {r s : Bool} {w : World}
end
end Go.Proofs.YtfhcpniibiobgaaDoorW.PrintWords
