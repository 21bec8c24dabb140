/-
  DERIVED. GIVEN WITH THE SEED: THE CARDS: each row of YtfhcpniibiobgaaDoorRows.lean that lists a variable, with what it lists TIED to the program's text (the seventh form; the later family's looks); each row that meets fmt, with fmt's text TOLD by the authors' own Lean function (tested against real Go, not proved from fmt's source: count such statements apart). THE CARD IS WHAT COUNTS. Prove the row's statement (the work); the ties are given (YtfhcpniibiobgaaDoorTie.lean); close each card by the builder's one call (the guide's Derived/Test/ToyasCard.lean, 'card_holds'). Laid BY PROGRAM, IN A SANDBOX (cutbox-door.mjs). By AI agents, Wed Nov 11 2026. No macro, syntax, notation, axiom, sorry.
-/
import Derived.Test.YtfhcpniibiobgaaDoorRows
import GoSem.ClaimSeven
namespace Go.Proofs.YtfhcpniibiobgaaDoor
namespace Rows

/-- THE TIED CARD OF 'laws.FnDataTell'. -/
def fnDataTellCard : Claim7 := { stood := { row := fnDataTellRow, standIns := [], harness := (true, "8954dceed7a71cb350802f1049568274ac714c5eed0d5bf85977b3a1ea08e332"), looks := true }, kinds := [], alts := [], laidByText := true, laidKinds := [.data], laidTests := true, laidLooks := .later }
def FnDataTellCardSaid : Prop := Claim7.holds Tryd.pinned (.plain (OpenSpec.ofChange fnDataTellSpec)) fnDataTellCard

/-- THE TIED CARD OF 'laws.FnRootIsChain'. -/
def fnRootIsChainCard : Claim7 := { stood := { row := fnRootIsChainRow, standIns := [], harness := (true, "8954dceed7a71cb350802f1049568274ac714c5eed0d5bf85977b3a1ea08e332"), looks := true }, kinds := [], alts := [], laidByText := true, laidKinds := [.data], laidTests := true, laidLooks := .later }
def FnRootIsChainCardSaid : Prop := Claim7.holds Tryd.pinned (.plain (OpenSpec.ofChange fnRootIsChainSpec)) fnRootIsChainCard

/-- THE TIED CARD OF 'laws.FnVerifyConsistency'. -/
def fnVerifyConsistencyCard : Claim7 := { stood := { row := fnVerifyConsistencyRow, standIns := [], harness := (true, "8954dceed7a71cb350802f1049568274ac714c5eed0d5bf85977b3a1ea08e332"), looks := true }, kinds := [], alts := [], laidByText := true, laidKinds := [.data], laidTests := true, laidLooks := .later }
def FnVerifyConsistencyCardSaid : Prop := Claim7.holds Tryd.pinned (.plain (OpenSpec.ofChange fnVerifyConsistencySpec)) fnVerifyConsistencyCard

/-- THE TIED CARD OF 'laws.FnRangeGrows'. -/
def fnRangeGrowsCard : Claim7 := { stood := { row := fnRangeGrowsRow, standIns := [], harness := (true, "8954dceed7a71cb350802f1049568274ac714c5eed0d5bf85977b3a1ea08e332"), looks := true }, kinds := [], alts := [], laidByText := true, laidKinds := [.data], laidTests := true, laidLooks := .later }
def FnRangeGrowsCardSaid : Prop := Claim7.holds Tryd.pinned (.plain (OpenSpec.ofChange fnRangeGrowsSpec)) fnRangeGrowsCard

/-- THE TIED CARD OF 'laws.FnRangesTell'. -/
def fnRangesTellCard : Claim7 := { stood := { row := fnRangesTellRow, standIns := [], harness := (true, "8954dceed7a71cb350802f1049568274ac714c5eed0d5bf85977b3a1ea08e332"), looks := true }, kinds := [], alts := [], laidByText := true, laidKinds := [.data], laidTests := true, laidLooks := .later }
def FnRangesTellCardSaid : Prop := Claim7.holds Tryd.pinned (.plain (OpenSpec.ofChange fnRangesTellSpec)) fnRangesTellCard

/-- THE TIED CARD OF 'laws.FnRangeMergeGroups'. -/
def fnRangeMergeGroupsCard : Claim7 := { stood := { row := fnRangeMergeGroupsRow, standIns := [], harness := (true, "8954dceed7a71cb350802f1049568274ac714c5eed0d5bf85977b3a1ea08e332"), looks := true }, kinds := [], alts := [], laidByText := true, laidKinds := [.data], laidTests := true, laidLooks := .later }
def FnRangeMergeGroupsCardSaid : Prop := Claim7.holds Tryd.pinned (.plain (OpenSpec.ofChange fnRangeMergeGroupsSpec)) fnRangeMergeGroupsCard

/-- THE TIED CARD OF 'laws.FnTreeConsistency'. -/
def fnTreeConsistencyCard : Claim7 := { stood := { row := fnTreeConsistencyRow, standIns := [], harness := (true, "8954dceed7a71cb350802f1049568274ac714c5eed0d5bf85977b3a1ea08e332"), looks := true }, kinds := [], alts := [], laidByText := true, laidKinds := [.data], laidTests := true, laidLooks := .later }
def FnTreeConsistencyCardSaid : Prop := Claim7.holds Tryd.pinned (.plain (OpenSpec.ofChange fnTreeConsistencySpec)) fnTreeConsistencyCard

/-- THE TIED CARD OF 'laws.FnIncludedStays'. -/
def fnIncludedStaysCard : Claim7 := { stood := { row := fnIncludedStaysRow, standIns := [], harness := (true, "8954dceed7a71cb350802f1049568274ac714c5eed0d5bf85977b3a1ea08e332"), looks := true }, kinds := [], alts := [], laidByText := true, laidKinds := [.data], laidTests := true, laidLooks := .later }
def FnIncludedStaysCardSaid : Prop := Claim7.holds Tryd.pinned (.plain (OpenSpec.ofChange fnIncludedStaysSpec)) fnIncludedStaysCard

/-- THE TIED CARD OF 'laws.FnLastLeaf'. -/
def fnLastLeafCard : Claim7 := { stood := { row := fnLastLeafRow, standIns := [], harness := (true, "8954dceed7a71cb350802f1049568274ac714c5eed0d5bf85977b3a1ea08e332"), looks := true }, kinds := [], alts := [], laidByText := true, laidKinds := [.data], laidTests := true, laidLooks := .later }
def FnLastLeafCardSaid : Prop := Claim7.holds Tryd.pinned (.plain (OpenSpec.ofChange fnLastLeafSpec)) fnLastLeafCard

/-- THE TIED CARD OF 'laws.FnInclusionOfRanges'. -/
def fnInclusionOfRangesCard : Claim7 := { stood := { row := fnInclusionOfRangesRow, standIns := [], harness := (true, "8954dceed7a71cb350802f1049568274ac714c5eed0d5bf85977b3a1ea08e332"), looks := true }, kinds := [], alts := [], laidByText := true, laidKinds := [.data], laidTests := true, laidLooks := .later }
def FnInclusionOfRangesCardSaid : Prop := Claim7.holds Tryd.pinned (.plain (OpenSpec.ofChange fnInclusionOfRangesSpec)) fnInclusionOfRangesCard

/-- THE SECOND FORM's CARD OF 'laws.FnDataTell'. -/
def fnDataTellUptoCard : Claim7 := { stood := { row := fnDataTellUptoRow, standIns := [], harness := (true, "8954dceed7a71cb350802f1049568274ac714c5eed0d5bf85977b3a1ea08e332"), looks := true }, kinds := [], alts := [], laidByText := true, laidKinds := [.data], laidTests := true, laidLooks := .later }
def FnDataTellUptoCardSaid : Prop := Claim7.holds Tryd.pinned (.plain (OpenSpec.upto fnDataTellSpec)) fnDataTellUptoCard

/-- THE SECOND FORM's CARD OF 'laws.FnRootIsChain'. -/
def fnRootIsChainUptoCard : Claim7 := { stood := { row := fnRootIsChainUptoRow, standIns := [], harness := (true, "8954dceed7a71cb350802f1049568274ac714c5eed0d5bf85977b3a1ea08e332"), looks := true }, kinds := [], alts := [], laidByText := true, laidKinds := [.data], laidTests := true, laidLooks := .later }
def FnRootIsChainUptoCardSaid : Prop := Claim7.holds Tryd.pinned (.plain (OpenSpec.upto fnRootIsChainSpec)) fnRootIsChainUptoCard

/-- THE SECOND FORM's CARD OF 'laws.FnVerifyConsistency'. -/
def fnVerifyConsistencyUptoCard : Claim7 := { stood := { row := fnVerifyConsistencyUptoRow, standIns := [], harness := (true, "8954dceed7a71cb350802f1049568274ac714c5eed0d5bf85977b3a1ea08e332"), looks := true }, kinds := [], alts := [], laidByText := true, laidKinds := [.data], laidTests := true, laidLooks := .later }
def FnVerifyConsistencyUptoCardSaid : Prop := Claim7.holds Tryd.pinned (.plain (OpenSpec.upto fnVerifyConsistencySpec)) fnVerifyConsistencyUptoCard

/-- THE SECOND FORM's CARD OF 'laws.FnRangeGrows'. -/
def fnRangeGrowsUptoCard : Claim7 := { stood := { row := fnRangeGrowsUptoRow, standIns := [], harness := (true, "8954dceed7a71cb350802f1049568274ac714c5eed0d5bf85977b3a1ea08e332"), looks := true }, kinds := [], alts := [], laidByText := true, laidKinds := [.data], laidTests := true, laidLooks := .later }
def FnRangeGrowsUptoCardSaid : Prop := Claim7.holds Tryd.pinned (.plain (OpenSpec.upto fnRangeGrowsSpec)) fnRangeGrowsUptoCard

/-- THE SECOND FORM's CARD OF 'laws.FnRangesTell'. -/
def fnRangesTellUptoCard : Claim7 := { stood := { row := fnRangesTellUptoRow, standIns := [], harness := (true, "8954dceed7a71cb350802f1049568274ac714c5eed0d5bf85977b3a1ea08e332"), looks := true }, kinds := [], alts := [], laidByText := true, laidKinds := [.data], laidTests := true, laidLooks := .later }
def FnRangesTellUptoCardSaid : Prop := Claim7.holds Tryd.pinned (.plain (OpenSpec.upto fnRangesTellSpec)) fnRangesTellUptoCard

/-- THE SECOND FORM's CARD OF 'laws.FnRangeMergeGroups'. -/
def fnRangeMergeGroupsUptoCard : Claim7 := { stood := { row := fnRangeMergeGroupsUptoRow, standIns := [], harness := (true, "8954dceed7a71cb350802f1049568274ac714c5eed0d5bf85977b3a1ea08e332"), looks := true }, kinds := [], alts := [], laidByText := true, laidKinds := [.data], laidTests := true, laidLooks := .later }
def FnRangeMergeGroupsUptoCardSaid : Prop := Claim7.holds Tryd.pinned (.plain (OpenSpec.upto fnRangeMergeGroupsSpec)) fnRangeMergeGroupsUptoCard

/-- THE SECOND FORM's CARD OF 'laws.FnTreeConsistency'. -/
def fnTreeConsistencyUptoCard : Claim7 := { stood := { row := fnTreeConsistencyUptoRow, standIns := [], harness := (true, "8954dceed7a71cb350802f1049568274ac714c5eed0d5bf85977b3a1ea08e332"), looks := true }, kinds := [], alts := [], laidByText := true, laidKinds := [.data], laidTests := true, laidLooks := .later }
def FnTreeConsistencyUptoCardSaid : Prop := Claim7.holds Tryd.pinned (.plain (OpenSpec.upto fnTreeConsistencySpec)) fnTreeConsistencyUptoCard

/-- THE SECOND FORM's CARD OF 'laws.FnIncludedStays'. -/
def fnIncludedStaysUptoCard : Claim7 := { stood := { row := fnIncludedStaysUptoRow, standIns := [], harness := (true, "8954dceed7a71cb350802f1049568274ac714c5eed0d5bf85977b3a1ea08e332"), looks := true }, kinds := [], alts := [], laidByText := true, laidKinds := [.data], laidTests := true, laidLooks := .later }
def FnIncludedStaysUptoCardSaid : Prop := Claim7.holds Tryd.pinned (.plain (OpenSpec.upto fnIncludedStaysSpec)) fnIncludedStaysUptoCard

/-- THE SECOND FORM's CARD OF 'laws.FnLastLeaf'. -/
def fnLastLeafUptoCard : Claim7 := { stood := { row := fnLastLeafUptoRow, standIns := [], harness := (true, "8954dceed7a71cb350802f1049568274ac714c5eed0d5bf85977b3a1ea08e332"), looks := true }, kinds := [], alts := [], laidByText := true, laidKinds := [.data], laidTests := true, laidLooks := .later }
def FnLastLeafUptoCardSaid : Prop := Claim7.holds Tryd.pinned (.plain (OpenSpec.upto fnLastLeafSpec)) fnLastLeafUptoCard

/-- THE SECOND FORM's CARD OF 'laws.FnInclusionOfRanges'. -/
def fnInclusionOfRangesUptoCard : Claim7 := { stood := { row := fnInclusionOfRangesUptoRow, standIns := [], harness := (true, "8954dceed7a71cb350802f1049568274ac714c5eed0d5bf85977b3a1ea08e332"), looks := true }, kinds := [], alts := [], laidByText := true, laidKinds := [.data], laidTests := true, laidLooks := .later }
def FnInclusionOfRangesUptoCardSaid : Prop := Claim7.holds Tryd.pinned (.plain (OpenSpec.upto fnInclusionOfRangesSpec)) fnInclusionOfRangesUptoCard
end Rows
end Go.Proofs.YtfhcpniibiobgaaDoor
