/- From the rows' condition (the table lies as the program's text lays it) to what the walks ask. -/
import Derived.Test.YtfhcpniibiobgaaDoorRows
import Derived.Test.YtfhcpniibiobgaaDoorGlob
import Derived.LaidMore
import Derived.Lib.LaidTab
import Derived.MakeChecks
namespace Go.Proofs.YtfhcpniibiobgaaDoor
open Go.RowKit
def tabInts : List Int := Lib.deBruijn64tab.map fun (n : Nat) => (n : Int)
theorem tab_datum : (Rows.laid_math_bits_deBruijn64tab : DataW Unit) = Lib.tabData .u8 tabInts := by kernel_rfl
theorem glob_of_met {W : World} (h : laidMet Tryd.prog [("math/bits.deBruijn64tab", Rows.laid_math_bits_deBruijn64tab)] W) : Glob W := by
  rw [tab_datum] at h
  have hg : Tryd.prog.globalNamed "math/bits.deBruijn64tab" = some 0 := by kernel_rfl
  have ht := Lib.tabIs_of_head hg (t := 180) (e := 5) (n := 64) (by kernel_rfl) Tryd.underlying180 Tryd.underlying5 (by kernel_rfl) (by kernel_rfl) h
  intro j hj
  have hc := ht.cell hg j (by unfold tabInts; rw [List.length_map]; exact hj)
  have e1 : tabInts.getD j 0 = ((Lib.deBruijn64tab.getD j 0 : Nat) : Int) := by
    unfold tabInts
    rw [List.getD_eq_getElem?_getD, List.getElem?_map, List.getElem?_eq_getElem hj, List.getD_eq_getElem?_getD, List.getElem?_eq_getElem hj]
    rfl
  rw [e1] at hc
  exact hc
end Go.Proofs.YtfhcpniibiobgaaDoor
