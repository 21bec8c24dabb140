/- From the rows' condition (the two tables lie as the program's text lays them) to what the walks ask. -/
import Derived.Test.YtpjfokolbgcbhaaDoorRows
import Derived.Test.YtpjfokolbgcbhaaDoorGlob
import Derived.LaidMore
import Derived.Lib.LaidTab
import Derived.MakeChecks
import Derived.Stop.LaidErr
namespace Go.Proofs.YtpjfokolbgcbhaaDoor
open Go.RowKit
theorem log_datum : (Rows.laid_pub_sarsen_pub_reedsolomon_logTable : DataW Unit) = Lib.tabData .u8 (logL.map fun (n : Nat) => (n : Int)) := by kernel_rfl
theorem exp_datum : (Rows.laid_pub_sarsen_pub_reedsolomon_expTable : DataW Unit) = Lib.tabData .u8 (expL.map fun (n : Nat) => (n : Int)) := by kernel_rfl
theorem tab_getD (l : List Nat) (j : Nat) (hj : j < l.length) : (l.map fun (n : Nat) => (n : Int)).getD j 0 = ((l.getD j 0 : Nat) : Int) := by
  rw [List.getD_eq_getElem?_getD, List.getElem?_map, List.getElem?_eq_getElem hj, List.getD_eq_getElem?_getD, List.getElem?_eq_getElem hj]
  rfl
theorem glob_of_met {W : World} {rest : List (String × DataW Unit)} (h : laidMet Tryd.prog (("pub-sarsen/pub/reedsolomon.logTable", Rows.laid_pub_sarsen_pub_reedsolomon_logTable) :: ("pub-sarsen/pub/reedsolomon.expTable", Rows.laid_pub_sarsen_pub_reedsolomon_expTable) :: rest) W) : Glob W := by
  rw [log_datum, exp_datum] at h
  have hg0 : Tryd.prog.globalNamed "pub-sarsen/pub/reedsolomon.logTable" = some 0 := by kernel_rfl
  have hg1 : Tryd.prog.globalNamed "pub-sarsen/pub/reedsolomon.expTable" = some 1 := by kernel_rfl
  have h0 := Lib.tabIs_of_head hg0 (t := 72) (e := 5) (n := 256) (by kernel_rfl) Tryd.underlying72 Tryd.underlying5 (by kernel_rfl) (by kernel_rfl) h
  have h1 := Lib.tabIs_of_head hg1 (t := 72) (e := 5) (n := 256) (by kernel_rfl) Tryd.underlying72 Tryd.underlying5 (by kernel_rfl) (by kernel_rfl) (laidMet.tail h)
  refine ⟨fun j hj => ?_, fun j hj => ?_⟩
  · have hc := h0.cell hg0 j (by rw [List.length_map, log_len]; exact hj)
    rw [tab_getD _ j (by rw [log_len]; exact hj)] at hc
    exact hc
  · have hc := h1.cell hg1 j (by rw [List.length_map, exp_len]; exact hj)
    rw [tab_getD _ j (by rw [exp_len]; exact hj)] at hc
    exact hc
theorem glob_of_laid {W : World} (h : laidMetH Tryd.prog [("pub-sarsen/pub/reedsolomon.logTable", Rows.laid_pub_sarsen_pub_reedsolomon_logTable), ("pub-sarsen/pub/reedsolomon.expTable", Rows.laid_pub_sarsen_pub_reedsolomon_expTable)] W) : Glob W := by
  rw [MakeChecks.laidMetH_plain _ _ _ (by kernel_rfl)] at h
  exact glob_of_met h
end Go.Proofs.YtpjfokolbgcbhaaDoor
