/-
  DERIVED. GIVEN WITH THE SEED: THE CARDS: each row of YtmcelgfekffinaaDoorRows.lean that lists a variable, with what it lists TIED to the program's text (the seventh form; the later family's looks); each row that meets fmt, with fmt's text TOLD by the authors' own Lean function (tested against real Go, not proved from fmt's source: count such statements apart). THE CARD IS WHAT COUNTS. Prove the row's statement (the work); the ties are given (YtmcelgfekffinaaDoorTie.lean); close each card by the builder's one call (the guide's Derived/Test/ToyasCard.lean, 'card_holds'). Laid BY PROGRAM, IN A SANDBOX (cutbox-door.mjs). By AI agents, Wed Nov 11 2026. No macro, syntax, notation, axiom, sorry.
-/
import Derived.Test.YtmcelgfekffinaaDoorRows
import GoSem.ClaimSeven
namespace Go.Proofs.YtmcelgfekffinaaDoor
namespace Rows

/-- THE TIED CARD OF 'laws.FnRangeNodesSplit'. -/
def fnRangeNodesSplitCard : Claim7 := { stood := { row := fnRangeNodesSplitRow, standIns := [], harness := (true, "7949bb3001a54ca77cc6874b9801ea4d6a04ced335a40462e80e2da483eb499b"), looks := false }, kinds := [], alts := [], laidByText := true, laidKinds := [.data], laidTests := true, laidLooks := .later }
def FnRangeNodesSplitCardSaid : Prop := Claim7.holds Tryd.pinned (.plain (OpenSpec.ofChange fnRangeNodesSplitSpec)) fnRangeNodesSplitCard

/-- THE TIED CARD OF 'laws.FnProofNodesScaled'. -/
def fnProofNodesScaledCard : Claim7 := { stood := { row := fnProofNodesScaledRow, standIns := [], harness := (true, "7949bb3001a54ca77cc6874b9801ea4d6a04ced335a40462e80e2da483eb499b"), looks := false }, kinds := [], alts := [], laidByText := true, laidKinds := [.data], laidTests := true, laidLooks := .later }
def FnProofNodesScaledCardSaid : Prop := Claim7.holds Tryd.pinned (.plain (OpenSpec.ofChange fnProofNodesScaledSpec)) fnProofNodesScaledCard

/-- THE TIED CARD OF 'laws.FnInclusionCovers'. -/
def fnInclusionCoversCard : Claim7 := { stood := { row := fnInclusionCoversRow, standIns := [], harness := (true, "7949bb3001a54ca77cc6874b9801ea4d6a04ced335a40462e80e2da483eb499b"), looks := false }, kinds := [], alts := [], laidByText := true, laidKinds := [.data], laidTests := true, laidLooks := .later }
def FnInclusionCoversCardSaid : Prop := Claim7.holds Tryd.pinned (.plain (OpenSpec.ofChange fnInclusionCoversSpec)) fnInclusionCoversCard

/-- THE TIED CARD OF 'laws.FnConsistency'. -/
def fnConsistencyCard : Claim7 := { stood := { row := fnConsistencyRow, standIns := [], harness := (true, "7949bb3001a54ca77cc6874b9801ea4d6a04ced335a40462e80e2da483eb499b"), looks := false }, kinds := [], alts := [], laidByText := true, laidKinds := [.data], laidTests := true, laidLooks := .later }
def FnConsistencyCardSaid : Prop := Claim7.holds Tryd.pinned (.plain (OpenSpec.ofChange fnConsistencySpec)) fnConsistencyCard

/-- THE SECOND FORM's CARD OF 'laws.FnRangeNodesSplit'. -/
def fnRangeNodesSplitUptoCard : Claim7 := { stood := { row := fnRangeNodesSplitUptoRow, standIns := [], harness := (true, "7949bb3001a54ca77cc6874b9801ea4d6a04ced335a40462e80e2da483eb499b"), looks := false }, kinds := [], alts := [], laidByText := true, laidKinds := [.data], laidTests := true, laidLooks := .later }
def FnRangeNodesSplitUptoCardSaid : Prop := Claim7.holds Tryd.pinned (.plain (OpenSpec.upto fnRangeNodesSplitSpec)) fnRangeNodesSplitUptoCard

/-- THE SECOND FORM's CARD OF 'laws.FnProofNodesScaled'. -/
def fnProofNodesScaledUptoCard : Claim7 := { stood := { row := fnProofNodesScaledUptoRow, standIns := [], harness := (true, "7949bb3001a54ca77cc6874b9801ea4d6a04ced335a40462e80e2da483eb499b"), looks := false }, kinds := [], alts := [], laidByText := true, laidKinds := [.data], laidTests := true, laidLooks := .later }
def FnProofNodesScaledUptoCardSaid : Prop := Claim7.holds Tryd.pinned (.plain (OpenSpec.upto fnProofNodesScaledSpec)) fnProofNodesScaledUptoCard

/-- THE SECOND FORM's CARD OF 'laws.FnInclusionCovers'. -/
def fnInclusionCoversUptoCard : Claim7 := { stood := { row := fnInclusionCoversUptoRow, standIns := [], harness := (true, "7949bb3001a54ca77cc6874b9801ea4d6a04ced335a40462e80e2da483eb499b"), looks := false }, kinds := [], alts := [], laidByText := true, laidKinds := [.data], laidTests := true, laidLooks := .later }
def FnInclusionCoversUptoCardSaid : Prop := Claim7.holds Tryd.pinned (.plain (OpenSpec.upto fnInclusionCoversSpec)) fnInclusionCoversUptoCard

/-- THE SECOND FORM's CARD OF 'laws.FnConsistency'. -/
def fnConsistencyUptoCard : Claim7 := { stood := { row := fnConsistencyUptoRow, standIns := [], harness := (true, "7949bb3001a54ca77cc6874b9801ea4d6a04ced335a40462e80e2da483eb499b"), looks := false }, kinds := [], alts := [], laidByText := true, laidKinds := [.data], laidTests := true, laidLooks := .later }
def FnConsistencyUptoCardSaid : Prop := Claim7.holds Tryd.pinned (.plain (OpenSpec.upto fnConsistencySpec)) fnConsistencyUptoCard
end Rows
end Go.Proofs.YtmcelgfekffinaaDoor
