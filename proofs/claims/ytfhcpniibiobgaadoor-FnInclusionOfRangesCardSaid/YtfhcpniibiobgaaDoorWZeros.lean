-- Out of a text that print.sh wrote for this seat, what this claim needs of it (wip/tools/slim.py); Lean checks it.
import Derived.Test.YtfhcpniibiobgaaDoorWApart
import Derived.Test.YtfhcpniibiobgaaDoorWArr
namespace Go.Proofs.YtfhcpniibiobgaaDoorW.PrintWords
open Go.RowKit
section
variable {P : Program}
end
namespace Kd
section
variable {P : Program} {ops : Array Oper} {rest : List Oper} {o : Oper} {a : Act} {Q : Exit → Act → World → Prop} {Kc : Act → World → Prop} {α : Type}
end
section
variable {α : Type} {d : Kd α} {e : Nat} {w : World} {base : Nat} {ok : Nat → Prop} {v : Value} {xs : List α}
end
section
variable {P : Program} {ops : Array Oper} {rest : List Oper} {o : Oper} {a : Act} {Q : Exit → Act → World → Prop} {Kc : Act → World → Prop} {α : Type}
end
end Kd
end Go.Proofs.YtfhcpniibiobgaaDoorW.PrintWords
