/- The two tables of the field lie in their variables; they stay where nothing old is written. -/
import Derived.Test.YtpjfokolbgcbhaaDoorTab
import Derived.Test.YtpjfokolbgcbhaaDoorProg
import Derived.Below
import Derived.Deep.Draws
namespace Go.Proofs.YtpjfokolbgcbhaaDoor
open Go.Proofs Go.RowKit
def Glob (w : World) : Prop := (∀ j : Nat, j < 256 → w.cell? ⟨0, j, none⟩ = some (.int .u8 (logL.getD j 0 : Nat))) ∧ (∀ j : Nat, j < 256 → w.cell? ⟨1, j, none⟩ = some (.int .u8 (expL.getD j 0 : Nat)))
theorem Glob.below {w w' : World} (h : Glob w) (hb : Below w.heap.size w w') : Glob w' :=
  ⟨fun j hj => (hb.cell (World.block_lt_of_cell? w _ (h.1 j hj))).trans (h.1 j hj), fun j hj => (hb.cell (World.block_lt_of_cell? w _ (h.2 j hj))).trans (h.2 j hj)⟩
theorem Glob.drewN {w : World} (h : Glob w) (n : Nat) : Glob (w.drewN n) := ⟨fun j hj => h.1 j hj, fun j hj => h.2 j hj⟩
end Go.Proofs.YtpjfokolbgcbhaaDoor
