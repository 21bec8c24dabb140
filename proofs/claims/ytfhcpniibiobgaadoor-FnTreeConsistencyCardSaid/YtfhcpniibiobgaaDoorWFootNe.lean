-- Out of a text that print.sh wrote for this seat, what this claim needs of it (wip/tools/prune.py); Lean checks it.
import Derived.Test.YtfhcpniibiobgaaDoorWN
/-! ### 52. A row that stays read whatever happens to a block (a set of blocks) doesn't lie there -/
namespace Go.Proofs.YtfhcpniibiobgaaDoorW.PrintWords
open Go.RowKit
namespace Kd
section
variable {α : Type} {d : Kd α} {W : World} {g n : Nat} {S ok : Nat → Prop} {A : Option Addr} {ad : Addr} {xs : List α}
end
end Kd
end Go.Proofs.YtfhcpniibiobgaaDoorW.PrintWords
