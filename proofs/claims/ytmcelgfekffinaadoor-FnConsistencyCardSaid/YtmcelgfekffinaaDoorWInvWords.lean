-- Out of a text that print.sh wrote for this seat, what this claim needs of it (wip/tools/prune.py); Lean checks it.
import Derived.Test.YtmcelgfekffinaaDoorWInv
import Derived.Test.YtmcelgfekffinaaDoorWFootNe
namespace Go.Proofs.YtmcelgfekffinaaDoorW.PrintWords
open Go.RowKit
end Go.Proofs.YtmcelgfekffinaaDoorW.PrintWords
namespace Go.Proofs.YtmcelgfekffinaaDoorW.PrintLast
section
variable {ops : Array Oper} {a : Act} {o og : Oper} {g : Nat} {t : Tmp} {u : Bool}
end
end Go.Proofs.YtmcelgfekffinaaDoorW.PrintLast
