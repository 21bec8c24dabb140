/- The table of bits.TrailingZeros64 lies in its variable; it stays where nothing old is written. -/
import Derived.Test.YtfhcpniibiobgaaDoorShelf
import Derived.Below
import Derived.Deep.Draws
namespace Go.Proofs.YtfhcpniibiobgaaDoor
open Go.Proofs Go.RowKit
def Glob (w : World) : Prop := TabAt (Tryd.lays29_ren.g 1) Lib.deBruijn64tab w
theorem Glob.below {w w' : World} (h : Glob w) (hb : Below w.heap.size w w') : Glob w' :=
  fun j hj => (hb.cell (World.block_lt_of_cell? w _ (h j hj))).trans (h j hj)
theorem Glob.drewN {w : World} (h : Glob w) (n : Nat) : Glob (w.drewN n) := fun j hj => h j hj
end Go.Proofs.YtfhcpniibiobgaaDoor
