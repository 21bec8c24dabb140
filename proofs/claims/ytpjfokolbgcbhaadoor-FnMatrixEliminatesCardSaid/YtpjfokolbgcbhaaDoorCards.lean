/-
  DERIVED. GIVEN WITH THE SEED: THE CARDS: each row of YtpjfokolbgcbhaaDoorRows.lean that lists a variable, with what it lists TIED to the program's text (the seventh form; the later family's looks); each row that meets fmt, with fmt's text TOLD by the authors' own Lean function (tested against real Go, not proved from fmt's source: count such statements apart). THE CARD IS WHAT COUNTS. Prove the row's statement (the work); the ties are given (YtpjfokolbgcbhaaDoorTie.lean); close each card by the builder's one call (the guide's Derived/Test/ToyasCard.lean, 'card_holds'). Laid BY PROGRAM, IN A SANDBOX (cutbox-door.mjs). By AI agents, Wed Nov 11 2026. No macro, syntax, notation, axiom, sorry.
-/
import Derived.Test.YtpjfokolbgcbhaaDoorRows
import GoSem.ClaimSeven
namespace Go.Proofs.YtpjfokolbgcbhaaDoor
namespace Rows

/-- THE TIED CARD OF 'laws.FnFieldRing'. -/
def fnFieldRingCard : Claim7 := { stood := { row := fnFieldRingRow, standIns := [], harness := (true, "12a18c92321b74de3de3a9f8a32cd0d3ad9861f23102e566ff7fb977b4cc58c1"), looks := false }, kinds := [], alts := [], laidByText := true, laidKinds := [.data, .data], laidTests := true, laidLooks := .later }
def FnFieldRingCardSaid : Prop := Claim7.holds Tryd.pinned (.plain (OpenSpec.ofChange fnFieldRingSpec)) fnFieldRingCard

/-- THE TIED CARD OF 'laws.FnFieldRoots'. -/
def fnFieldRootsCard : Claim7 := { stood := { row := fnFieldRootsRow, standIns := [], harness := (true, "12a18c92321b74de3de3a9f8a32cd0d3ad9861f23102e566ff7fb977b4cc58c1"), looks := false }, kinds := [], alts := [], laidByText := true, laidKinds := [.data, .data], laidTests := true, laidLooks := .later }
def FnFieldRootsCardSaid : Prop := Claim7.holds Tryd.pinned (.plain (OpenSpec.ofChange fnFieldRootsSpec)) fnFieldRootsCard

/-- THE TIED CARD OF 'laws.FnFieldExponents'. -/
def fnFieldExponentsCard : Claim7 := { stood := { row := fnFieldExponentsRow, standIns := [], harness := (true, "12a18c92321b74de3de3a9f8a32cd0d3ad9861f23102e566ff7fb977b4cc58c1"), looks := false }, kinds := [], alts := [], laidByText := true, laidKinds := [.data, .data], laidTests := true, laidLooks := .later }
def FnFieldExponentsCardSaid : Prop := Claim7.holds Tryd.pinned (.plain (OpenSpec.ofChange fnFieldExponentsSpec)) fnFieldExponentsCard

/-- THE TIED CARD OF 'laws.FnVandermonde'. -/
def fnVandermondeCard : Claim7 := { stood := { row := fnVandermondeRow, standIns := [], harness := (true, "12a18c92321b74de3de3a9f8a32cd0d3ad9861f23102e566ff7fb977b4cc58c1"), looks := false }, kinds := [], alts := [], laidByText := true, laidKinds := [.data, .data, .sentinel, .sentinel], laidTests := true, laidLooks := .later }
def FnVandermondeCardSaid : Prop := Claim7.holds Tryd.pinned (.plain (OpenSpec.ofChange fnVandermondeSpec)) fnVandermondeCard

/-- THE TIED CARD OF 'laws.FnMatrixGroups'. -/
def fnMatrixGroupsCard : Claim7 := { stood := { row := fnMatrixGroupsRow, standIns := [], harness := (true, "12a18c92321b74de3de3a9f8a32cd0d3ad9861f23102e566ff7fb977b4cc58c1"), looks := false }, kinds := [], alts := [], laidByText := true, laidKinds := [.data, .data, .sentinel, .sentinel, .sentinel], laidTests := true, laidLooks := .later }
def FnMatrixGroupsCardSaid : Prop := Claim7.holds Tryd.pinned (.plain (OpenSpec.ofChange fnMatrixGroupsSpec)) fnMatrixGroupsCard

/-- THE TIED CARD OF 'laws.FnMatrixEliminates'. -/
def fnMatrixEliminatesCard : Claim7 := { stood := { row := fnMatrixEliminatesRow, standIns := [], harness := (true, "12a18c92321b74de3de3a9f8a32cd0d3ad9861f23102e566ff7fb977b4cc58c1"), looks := false }, kinds := [], alts := [], laidByText := true, laidKinds := [.data, .data, .sentinel, .sentinel, .sentinel, .sentinel], laidTests := true, laidLooks := .later }
def FnMatrixEliminatesCardSaid : Prop := Claim7.holds Tryd.pinned (.plain (OpenSpec.ofChange fnMatrixEliminatesSpec)) fnMatrixEliminatesCard

/-- THE SECOND FORM's CARD OF 'laws.FnFieldRing'. -/
def fnFieldRingUptoCard : Claim7 := { stood := { row := fnFieldRingUptoRow, standIns := [], harness := (true, "12a18c92321b74de3de3a9f8a32cd0d3ad9861f23102e566ff7fb977b4cc58c1"), looks := false }, kinds := [], alts := [], laidByText := true, laidKinds := [.data, .data], laidTests := true, laidLooks := .later }
def FnFieldRingUptoCardSaid : Prop := Claim7.holds Tryd.pinned (.plain (OpenSpec.upto fnFieldRingSpec)) fnFieldRingUptoCard

/-- THE SECOND FORM's CARD OF 'laws.FnFieldRoots'. -/
def fnFieldRootsUptoCard : Claim7 := { stood := { row := fnFieldRootsUptoRow, standIns := [], harness := (true, "12a18c92321b74de3de3a9f8a32cd0d3ad9861f23102e566ff7fb977b4cc58c1"), looks := false }, kinds := [], alts := [], laidByText := true, laidKinds := [.data, .data], laidTests := true, laidLooks := .later }
def FnFieldRootsUptoCardSaid : Prop := Claim7.holds Tryd.pinned (.plain (OpenSpec.upto fnFieldRootsSpec)) fnFieldRootsUptoCard

/-- THE SECOND FORM's CARD OF 'laws.FnFieldExponents'. -/
def fnFieldExponentsUptoCard : Claim7 := { stood := { row := fnFieldExponentsUptoRow, standIns := [], harness := (true, "12a18c92321b74de3de3a9f8a32cd0d3ad9861f23102e566ff7fb977b4cc58c1"), looks := false }, kinds := [], alts := [], laidByText := true, laidKinds := [.data, .data], laidTests := true, laidLooks := .later }
def FnFieldExponentsUptoCardSaid : Prop := Claim7.holds Tryd.pinned (.plain (OpenSpec.upto fnFieldExponentsSpec)) fnFieldExponentsUptoCard

/-- THE SECOND FORM's CARD OF 'laws.FnVandermonde'. -/
def fnVandermondeUptoCard : Claim7 := { stood := { row := fnVandermondeUptoRow, standIns := [], harness := (true, "12a18c92321b74de3de3a9f8a32cd0d3ad9861f23102e566ff7fb977b4cc58c1"), looks := false }, kinds := [], alts := [], laidByText := true, laidKinds := [.data, .data, .sentinel, .sentinel], laidTests := true, laidLooks := .later }
def FnVandermondeUptoCardSaid : Prop := Claim7.holds Tryd.pinned (.plain (OpenSpec.upto fnVandermondeSpec)) fnVandermondeUptoCard

/-- THE SECOND FORM's CARD OF 'laws.FnMatrixGroups'. -/
def fnMatrixGroupsUptoCard : Claim7 := { stood := { row := fnMatrixGroupsUptoRow, standIns := [], harness := (true, "12a18c92321b74de3de3a9f8a32cd0d3ad9861f23102e566ff7fb977b4cc58c1"), looks := false }, kinds := [], alts := [], laidByText := true, laidKinds := [.data, .data, .sentinel, .sentinel, .sentinel], laidTests := true, laidLooks := .later }
def FnMatrixGroupsUptoCardSaid : Prop := Claim7.holds Tryd.pinned (.plain (OpenSpec.upto fnMatrixGroupsSpec)) fnMatrixGroupsUptoCard

/-- THE SECOND FORM's CARD OF 'laws.FnMatrixEliminates'. -/
def fnMatrixEliminatesUptoCard : Claim7 := { stood := { row := fnMatrixEliminatesUptoRow, standIns := [], harness := (true, "12a18c92321b74de3de3a9f8a32cd0d3ad9861f23102e566ff7fb977b4cc58c1"), looks := false }, kinds := [], alts := [], laidByText := true, laidKinds := [.data, .data, .sentinel, .sentinel, .sentinel, .sentinel], laidTests := true, laidLooks := .later }
def FnMatrixEliminatesUptoCardSaid : Prop := Claim7.holds Tryd.pinned (.plain (OpenSpec.upto fnMatrixEliminatesSpec)) fnMatrixEliminatesUptoCard
end Rows
end Go.Proofs.YtpjfokolbgcbhaaDoor
