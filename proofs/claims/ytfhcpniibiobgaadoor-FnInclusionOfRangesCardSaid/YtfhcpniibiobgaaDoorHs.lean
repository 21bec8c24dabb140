/- spec.Same, walked by hand: the print falls there. -/
import Derived.Test.YtfhcpniibiobgaaDoorHm
namespace Go.Proofs.YtfhcpniibiobgaaDoor.Hs
open Go.RowKit Go.Proofs.YtfhcpniibiobgaaDoorW.PrintWords Go.Proofs.YtfhcpniibiobgaaDoorW.PrintLast Go.Proofs.YtfhcpniibiobgaaDoorW.PrintMore
def eqB (l m : List Int) : Bool := (strOfNums l).toList == (strOfNums m).toList
def sameF (L M : List (List Int)) : Bool := decide (L.length = M.length) && (List.range L.length).all fun j => eqB (L.getD j []) (M.getD j [])
end Go.Proofs.YtfhcpniibiobgaaDoor.Hs
