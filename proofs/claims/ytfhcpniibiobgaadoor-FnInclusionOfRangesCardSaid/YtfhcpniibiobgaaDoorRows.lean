/-
  NARROWER THAN 'FOR EVERY INPUT', by the rows' own cells (each row's printed sentence says how): FnDataTell: laid · FnRootIsChain: laid · FnVerifyConsistency: laid · FnRangeGrows: laid · FnRangesTell: laid · FnRangeMergeGroups: laid · FnTreeConsistency: laid · FnIncludedStays: laid · FnLastLeaf: laid · FnInclusionOfRanges: laid.
  DERIVED. THE GIVEN ROWS OF THIS SEAT. 10 by the template 'for every input the law returns true; each argument reads behind the call as it read before'; 0 by the template 'total and deterministic' (their statements: YtfhcpniibiobgaaDoorTotals.lean).
  GIVEN WITH THE SEED: the statements are not yours to turn. If you find one false, say at which input.
  Laid BY PROGRAM, IN A SANDBOX (cutbox-rows.mjs): the forced cells as the released guide's own fill.sh prints them over the translation 75d59a518488b978… (all of the seat's roots in one cut). By AI agents, Wed Nov 11 2026. No macro, syntax, notation, axiom, sorry.
-/
import Derived.Test.YtfhcpniibiobgaaDoorChecked
import GoSem.Claim
import GoSem.ClaimJoined
import GoSem.ClaimMapViews
import Derived.JoinedTies
import Derived.KernelRfl
namespace Go.Proofs.YtfhcpniibiobgaaDoor
/- THE CELL 'sum', in the pinned program and in every row, IS THE sha256 OF THE DUMP (.gsa) THAT YtfhcpniibiobgaaDoorProg.lean LOADS. Nothing in Lean hashes anything: it is a label: what it is worth is what the hold of that sum in a sandbox is worth. -/
noncomputable def Tryd.pinned : Pinned := { name := "ytfhcpniibiobgaadoor", sum := "75d59a518488b978bed926d123bbb987b0f7e14439041cda66579adee56ea06b", checked := Tryd.checked }
namespace Rows
def none {H : Type} : Left H := { results := [], args := [] }

/- WHAT THE LISTED PACKAGE-LEVEL VARIABLES READ AS WHEN THE CALL BEGINS. Each datum BY PROGRAM (the guide's laid-datum.mjs) off the statement by which the dump's own 'gosem.cut.vars' lays the variable. In a bare row this is a premise. The card (YtfhcpniibiobgaaDoorCards.lean) ties it to the program's text. -/
def laid_math_bits_deBruijn64tab {H : Type} : DataW H := .agg [.lit (.int .u8 0), .lit (.int .u8 1), .lit (.int .u8 56), .lit (.int .u8 2), .lit (.int .u8 57), .lit (.int .u8 49), .lit (.int .u8 28), .lit (.int .u8 3), .lit (.int .u8 61), .lit (.int .u8 58), .lit (.int .u8 42), .lit (.int .u8 50), .lit (.int .u8 38), .lit (.int .u8 29), .lit (.int .u8 17), .lit (.int .u8 4), .lit (.int .u8 62), .lit (.int .u8 47), .lit (.int .u8 59), .lit (.int .u8 36), .lit (.int .u8 45), .lit (.int .u8 43), .lit (.int .u8 51), .lit (.int .u8 22), .lit (.int .u8 53), .lit (.int .u8 39), .lit (.int .u8 33), .lit (.int .u8 30), .lit (.int .u8 24), .lit (.int .u8 18), .lit (.int .u8 12), .lit (.int .u8 5), .lit (.int .u8 63), .lit (.int .u8 55), .lit (.int .u8 48), .lit (.int .u8 27), .lit (.int .u8 60), .lit (.int .u8 41), .lit (.int .u8 37), .lit (.int .u8 16), .lit (.int .u8 46), .lit (.int .u8 35), .lit (.int .u8 44), .lit (.int .u8 21), .lit (.int .u8 52), .lit (.int .u8 32), .lit (.int .u8 23), .lit (.int .u8 11), .lit (.int .u8 54), .lit (.int .u8 26), .lit (.int .u8 40), .lit (.int .u8 15), .lit (.int .u8 34), .lit (.int .u8 20), .lit (.int .u8 31), .lit (.int .u8 10), .lit (.int .u8 25), .lit (.int .u8 14), .lit (.int .u8 19), .lit (.int .u8 9), .lit (.int .u8 13), .lit (.int .u8 8), .lit (.int .u8 7), .lit (.int .u8 6)]

/-- 'laws.FnDataTell': WHATEVER THE INPUT: true; the input reads as it did. -/
def fnDataTellSpec : ChangeSpec := { name := "fnDataTell", fn := fun _ => fun
  | [d1, d2, d3] => { results := [.lit (.bool true)], args := [d1, d2, d3] }
  | _ => none }
def fnDataTellRow : OpenClaim := { program := "ytfhcpniibiobgaadoor", sum := "75d59a518488b978bed926d123bbb987b0f7e14439041cda66579adee56ea06b", func := "pub-sarsen/laws.FnDataTell", spec := "fnDataTell", unfollowed := true, recurses := true, named := ["math/bits.deBruijn64tab"], apart := false, laid := [("math/bits.deBruijn64tab", laid_math_bits_deBruijn64tab)] }
def FnDataTellSaid : Prop := fnDataTellRow.holds Tryd.pinned (OpenSpec.ofChange fnDataTellSpec)

/-- ITS FALSE NEIGHBOUR: 'it returns false'. Refute it at one input. -/
def fnDataTellWrong : ChangeSpec := { name := "fnDataTell", fn := fun _ => fun
  | [d1, d2, d3] => { results := [.lit (.bool false)], args := [d1, d2, d3] }
  | _ => none }
def FnDataTellWrongFalsely : Prop := fnDataTellRow.holds Tryd.pinned (OpenSpec.ofChange fnDataTellWrong)

/-- 'laws.FnRootIsChain': WHATEVER THE INPUT: true; the input reads as it did. -/
def fnRootIsChainSpec : ChangeSpec := { name := "fnRootIsChain", fn := fun _ => fun
  | [d1, d2] => { results := [.lit (.bool true)], args := [d1, d2] }
  | _ => none }
def fnRootIsChainRow : OpenClaim := { program := "ytfhcpniibiobgaadoor", sum := "75d59a518488b978bed926d123bbb987b0f7e14439041cda66579adee56ea06b", func := "pub-sarsen/laws.FnRootIsChain", spec := "fnRootIsChain", unfollowed := true, recurses := true, named := ["math/bits.deBruijn64tab"], apart := false, laid := [("math/bits.deBruijn64tab", laid_math_bits_deBruijn64tab)] }
def FnRootIsChainSaid : Prop := fnRootIsChainRow.holds Tryd.pinned (OpenSpec.ofChange fnRootIsChainSpec)

/-- ITS FALSE NEIGHBOUR: 'it returns false'. Refute it at one input. -/
def fnRootIsChainWrong : ChangeSpec := { name := "fnRootIsChain", fn := fun _ => fun
  | [d1, d2] => { results := [.lit (.bool false)], args := [d1, d2] }
  | _ => none }
def FnRootIsChainWrongFalsely : Prop := fnRootIsChainRow.holds Tryd.pinned (OpenSpec.ofChange fnRootIsChainWrong)

/-- 'laws.FnVerifyConsistency': WHATEVER THE INPUT: true; the input reads as it did. -/
def fnVerifyConsistencySpec : ChangeSpec := { name := "fnVerifyConsistency", fn := fun _ => fun
  | [d1, d2, d3, d4, d5, d6] => { results := [.lit (.bool true)], args := [d1, d2, d3, d4, d5, d6] }
  | _ => none }
def fnVerifyConsistencyRow : OpenClaim := { program := "ytfhcpniibiobgaadoor", sum := "75d59a518488b978bed926d123bbb987b0f7e14439041cda66579adee56ea06b", func := "pub-sarsen/laws.FnVerifyConsistency", spec := "fnVerifyConsistency", unfollowed := true, recurses := true, named := ["math/bits.deBruijn64tab"], apart := false, laid := [("math/bits.deBruijn64tab", laid_math_bits_deBruijn64tab)] }
def FnVerifyConsistencySaid : Prop := fnVerifyConsistencyRow.holds Tryd.pinned (OpenSpec.ofChange fnVerifyConsistencySpec)

/-- ITS FALSE NEIGHBOUR: 'it returns false'. Refute it at one input. -/
def fnVerifyConsistencyWrong : ChangeSpec := { name := "fnVerifyConsistency", fn := fun _ => fun
  | [d1, d2, d3, d4, d5, d6] => { results := [.lit (.bool false)], args := [d1, d2, d3, d4, d5, d6] }
  | _ => none }
def FnVerifyConsistencyWrongFalsely : Prop := fnVerifyConsistencyRow.holds Tryd.pinned (OpenSpec.ofChange fnVerifyConsistencyWrong)

/-- 'laws.FnRangeGrows': WHATEVER THE INPUT: true; the input reads as it did. -/
def fnRangeGrowsSpec : ChangeSpec := { name := "fnRangeGrows", fn := fun _ => fun
  | [d1, d2, d3] => { results := [.lit (.bool true)], args := [d1, d2, d3] }
  | _ => none }
def fnRangeGrowsRow : OpenClaim := { program := "ytfhcpniibiobgaadoor", sum := "75d59a518488b978bed926d123bbb987b0f7e14439041cda66579adee56ea06b", func := "pub-sarsen/laws.FnRangeGrows", spec := "fnRangeGrows", unfollowed := true, recurses := true, named := ["math/bits.deBruijn64tab"], apart := false, laid := [("math/bits.deBruijn64tab", laid_math_bits_deBruijn64tab)] }
def FnRangeGrowsSaid : Prop := fnRangeGrowsRow.holds Tryd.pinned (OpenSpec.ofChange fnRangeGrowsSpec)

/-- ITS FALSE NEIGHBOUR: 'it returns false'. Refute it at one input. -/
def fnRangeGrowsWrong : ChangeSpec := { name := "fnRangeGrows", fn := fun _ => fun
  | [d1, d2, d3] => { results := [.lit (.bool false)], args := [d1, d2, d3] }
  | _ => none }
def FnRangeGrowsWrongFalsely : Prop := fnRangeGrowsRow.holds Tryd.pinned (OpenSpec.ofChange fnRangeGrowsWrong)

/-- 'laws.FnRangesTell': WHATEVER THE INPUT: true; the input reads as it did. -/
def fnRangesTellSpec : ChangeSpec := { name := "fnRangesTell", fn := fun _ => fun
  | [d1, d2, d3, d4] => { results := [.lit (.bool true)], args := [d1, d2, d3, d4] }
  | _ => none }
def fnRangesTellRow : OpenClaim := { program := "ytfhcpniibiobgaadoor", sum := "75d59a518488b978bed926d123bbb987b0f7e14439041cda66579adee56ea06b", func := "pub-sarsen/laws.FnRangesTell", spec := "fnRangesTell", unfollowed := true, recurses := true, named := ["math/bits.deBruijn64tab"], apart := false, laid := [("math/bits.deBruijn64tab", laid_math_bits_deBruijn64tab)] }
def FnRangesTellSaid : Prop := fnRangesTellRow.holds Tryd.pinned (OpenSpec.ofChange fnRangesTellSpec)

/-- ITS FALSE NEIGHBOUR: 'it returns false'. Refute it at one input. -/
def fnRangesTellWrong : ChangeSpec := { name := "fnRangesTell", fn := fun _ => fun
  | [d1, d2, d3, d4] => { results := [.lit (.bool false)], args := [d1, d2, d3, d4] }
  | _ => none }
def FnRangesTellWrongFalsely : Prop := fnRangesTellRow.holds Tryd.pinned (OpenSpec.ofChange fnRangesTellWrong)

/-- 'laws.FnRangeMergeGroups': WHATEVER THE INPUT: true; the input reads as it did. -/
def fnRangeMergeGroupsSpec : ChangeSpec := { name := "fnRangeMergeGroups", fn := fun _ => fun
  | [d1, d2, d3, d4] => { results := [.lit (.bool true)], args := [d1, d2, d3, d4] }
  | _ => none }
def fnRangeMergeGroupsRow : OpenClaim := { program := "ytfhcpniibiobgaadoor", sum := "75d59a518488b978bed926d123bbb987b0f7e14439041cda66579adee56ea06b", func := "pub-sarsen/laws.FnRangeMergeGroups", spec := "fnRangeMergeGroups", unfollowed := true, recurses := true, named := ["math/bits.deBruijn64tab"], apart := false, laid := [("math/bits.deBruijn64tab", laid_math_bits_deBruijn64tab)] }
def FnRangeMergeGroupsSaid : Prop := fnRangeMergeGroupsRow.holds Tryd.pinned (OpenSpec.ofChange fnRangeMergeGroupsSpec)

/-- ITS FALSE NEIGHBOUR: 'it returns false'. Refute it at one input. -/
def fnRangeMergeGroupsWrong : ChangeSpec := { name := "fnRangeMergeGroups", fn := fun _ => fun
  | [d1, d2, d3, d4] => { results := [.lit (.bool false)], args := [d1, d2, d3, d4] }
  | _ => none }
def FnRangeMergeGroupsWrongFalsely : Prop := fnRangeMergeGroupsRow.holds Tryd.pinned (OpenSpec.ofChange fnRangeMergeGroupsWrong)

/-- 'laws.FnTreeConsistency': WHATEVER THE INPUT: true; the input reads as it did. -/
def fnTreeConsistencySpec : ChangeSpec := { name := "fnTreeConsistency", fn := fun _ => fun
  | [d1, d2, d3, d4] => { results := [.lit (.bool true)], args := [d1, d2, d3, d4] }
  | _ => none }
def fnTreeConsistencyRow : OpenClaim := { program := "ytfhcpniibiobgaadoor", sum := "75d59a518488b978bed926d123bbb987b0f7e14439041cda66579adee56ea06b", func := "pub-sarsen/laws.FnTreeConsistency", spec := "fnTreeConsistency", unfollowed := true, recurses := true, named := ["math/bits.deBruijn64tab"], apart := false, laid := [("math/bits.deBruijn64tab", laid_math_bits_deBruijn64tab)] }
def FnTreeConsistencySaid : Prop := fnTreeConsistencyRow.holds Tryd.pinned (OpenSpec.ofChange fnTreeConsistencySpec)

/-- ITS FALSE NEIGHBOUR: 'it returns false'. Refute it at one input. -/
def fnTreeConsistencyWrong : ChangeSpec := { name := "fnTreeConsistency", fn := fun _ => fun
  | [d1, d2, d3, d4] => { results := [.lit (.bool false)], args := [d1, d2, d3, d4] }
  | _ => none }
def FnTreeConsistencyWrongFalsely : Prop := fnTreeConsistencyRow.holds Tryd.pinned (OpenSpec.ofChange fnTreeConsistencyWrong)

/-- 'laws.FnIncludedStays': WHATEVER THE INPUT: true; the input reads as it did. -/
def fnIncludedStaysSpec : ChangeSpec := { name := "fnIncludedStays", fn := fun _ => fun
  | [d1, d2, d3, d4, d5, d6, d7, d8] => { results := [.lit (.bool true)], args := [d1, d2, d3, d4, d5, d6, d7, d8] }
  | _ => none }
def fnIncludedStaysRow : OpenClaim := { program := "ytfhcpniibiobgaadoor", sum := "75d59a518488b978bed926d123bbb987b0f7e14439041cda66579adee56ea06b", func := "pub-sarsen/laws.FnIncludedStays", spec := "fnIncludedStays", unfollowed := true, recurses := true, named := ["math/bits.deBruijn64tab"], apart := false, laid := [("math/bits.deBruijn64tab", laid_math_bits_deBruijn64tab)] }
def FnIncludedStaysSaid : Prop := fnIncludedStaysRow.holds Tryd.pinned (OpenSpec.ofChange fnIncludedStaysSpec)

/-- ITS FALSE NEIGHBOUR: 'it returns false'. Refute it at one input. -/
def fnIncludedStaysWrong : ChangeSpec := { name := "fnIncludedStays", fn := fun _ => fun
  | [d1, d2, d3, d4, d5, d6, d7, d8] => { results := [.lit (.bool false)], args := [d1, d2, d3, d4, d5, d6, d7, d8] }
  | _ => none }
def FnIncludedStaysWrongFalsely : Prop := fnIncludedStaysRow.holds Tryd.pinned (OpenSpec.ofChange fnIncludedStaysWrong)

/-- 'laws.FnLastLeaf': WHATEVER THE INPUT: true; the input reads as it did. -/
def fnLastLeafSpec : ChangeSpec := { name := "fnLastLeaf", fn := fun _ => fun
  | [d1, d2, d3] => { results := [.lit (.bool true)], args := [d1, d2, d3] }
  | _ => none }
def fnLastLeafRow : OpenClaim := { program := "ytfhcpniibiobgaadoor", sum := "75d59a518488b978bed926d123bbb987b0f7e14439041cda66579adee56ea06b", func := "pub-sarsen/laws.FnLastLeaf", spec := "fnLastLeaf", unfollowed := true, recurses := true, named := ["math/bits.deBruijn64tab"], apart := false, laid := [("math/bits.deBruijn64tab", laid_math_bits_deBruijn64tab)] }
def FnLastLeafSaid : Prop := fnLastLeafRow.holds Tryd.pinned (OpenSpec.ofChange fnLastLeafSpec)

/-- ITS FALSE NEIGHBOUR: 'it returns false'. Refute it at one input. -/
def fnLastLeafWrong : ChangeSpec := { name := "fnLastLeaf", fn := fun _ => fun
  | [d1, d2, d3] => { results := [.lit (.bool false)], args := [d1, d2, d3] }
  | _ => none }
def FnLastLeafWrongFalsely : Prop := fnLastLeafRow.holds Tryd.pinned (OpenSpec.ofChange fnLastLeafWrong)

/-- 'laws.FnInclusionOfRanges': WHATEVER THE INPUT: true; the input reads as it did. -/
def fnInclusionOfRangesSpec : ChangeSpec := { name := "fnInclusionOfRanges", fn := fun _ => fun
  | [d1, d2, d3, d4] => { results := [.lit (.bool true)], args := [d1, d2, d3, d4] }
  | _ => none }
def fnInclusionOfRangesRow : OpenClaim := { program := "ytfhcpniibiobgaadoor", sum := "75d59a518488b978bed926d123bbb987b0f7e14439041cda66579adee56ea06b", func := "pub-sarsen/laws.FnInclusionOfRanges", spec := "fnInclusionOfRanges", unfollowed := true, recurses := true, named := ["math/bits.deBruijn64tab"], apart := false, laid := [("math/bits.deBruijn64tab", laid_math_bits_deBruijn64tab)] }
def FnInclusionOfRangesSaid : Prop := fnInclusionOfRangesRow.holds Tryd.pinned (OpenSpec.ofChange fnInclusionOfRangesSpec)

/-- ITS FALSE NEIGHBOUR: 'it returns false'. Refute it at one input. -/
def fnInclusionOfRangesWrong : ChangeSpec := { name := "fnInclusionOfRanges", fn := fun _ => fun
  | [d1, d2, d3, d4] => { results := [.lit (.bool false)], args := [d1, d2, d3, d4] }
  | _ => none }
def FnInclusionOfRangesWrongFalsely : Prop := fnInclusionOfRangesRow.holds Tryd.pinned (OpenSpec.ofChange fnInclusionOfRangesWrong)

/- THE SECOND FORM. 'bulk': how many values and letters a reading holds, each counted each time it is reached (what is shared counts as often as it is met; a slice's spare places count too). A statement '..UptoSaid' is the law's where the arguments, and the package variables that the reading takes, are together of bulk at most 1048576: NARROWER than '..Said'. Prove '..Said' where nothing that the law and all that it calls make is longer than what came in: it says more and counts as full. Else prove '..UptoSaid'. A law counts once. -/
mutual
def uptoBulk {H : Type} : DataW H → Nat
  | .lit (.string bytes) => bytes.length + 1
  | .lit _ => 1
  | .nil => 1
  | .ptr d => uptoBulk d + 1
  | .slice elems spare => uptoBulkAll elems + uptoBulkAll spare + 1
  | .agg parts => uptoBulkAll parts + 1
  | .iface _ d => uptoBulk d + 1
  | .map entries => uptoBulkEntries entries + 1
  | .held _ => 1
def uptoBulkAll {H : Type} : List (DataW H) → Nat
  | [] => 0
  | d :: r => uptoBulk d + uptoBulkAll r
def uptoBulkEntries {H : Type} : List (Lit × DataW H) → Nat
  | [] => 0
  | x :: r => uptoBulkEntry x + uptoBulkEntries r
def uptoBulkEntry {H : Type} : Lit × DataW H → Nat
  | (.string bytes, d) => bytes.length + uptoBulk d + 1
  | (_, d) => uptoBulk d + 1
 end
def uptoSmall : (H : Type) → List (DataW H) → Bool := fun _ ds => decide (uptoBulkAll ds ≤ 1048576)
def OpenSpec.upto (s : _root_.Go.ChangeSpec) : _root_.Go.OpenSpec := { _root_.Go.OpenSpec.ofChange s with cond := some uptoSmall }

/-- 'laws.FnDataTell', WHERE WHAT IT READS IS OF BULK AT MOST 1048576: true; the input reads as it did. -/
def fnDataTellUptoRow : OpenClaim := { program := "ytfhcpniibiobgaadoor", sum := "75d59a518488b978bed926d123bbb987b0f7e14439041cda66579adee56ea06b", func := "pub-sarsen/laws.FnDataTell", spec := "fnDataTell", unfollowed := true, recurses := true, named := ["math/bits.deBruijn64tab"], apart := false, laid := [("math/bits.deBruijn64tab", laid_math_bits_deBruijn64tab)], narrowed := true }
def FnDataTellUptoSaid : Prop := fnDataTellUptoRow.holds Tryd.pinned (OpenSpec.upto fnDataTellSpec)

/-- 'laws.FnRootIsChain', WHERE WHAT IT READS IS OF BULK AT MOST 1048576: true; the input reads as it did. -/
def fnRootIsChainUptoRow : OpenClaim := { program := "ytfhcpniibiobgaadoor", sum := "75d59a518488b978bed926d123bbb987b0f7e14439041cda66579adee56ea06b", func := "pub-sarsen/laws.FnRootIsChain", spec := "fnRootIsChain", unfollowed := true, recurses := true, named := ["math/bits.deBruijn64tab"], apart := false, laid := [("math/bits.deBruijn64tab", laid_math_bits_deBruijn64tab)], narrowed := true }
def FnRootIsChainUptoSaid : Prop := fnRootIsChainUptoRow.holds Tryd.pinned (OpenSpec.upto fnRootIsChainSpec)

/-- 'laws.FnVerifyConsistency', WHERE WHAT IT READS IS OF BULK AT MOST 1048576: true; the input reads as it did. -/
def fnVerifyConsistencyUptoRow : OpenClaim := { program := "ytfhcpniibiobgaadoor", sum := "75d59a518488b978bed926d123bbb987b0f7e14439041cda66579adee56ea06b", func := "pub-sarsen/laws.FnVerifyConsistency", spec := "fnVerifyConsistency", unfollowed := true, recurses := true, named := ["math/bits.deBruijn64tab"], apart := false, laid := [("math/bits.deBruijn64tab", laid_math_bits_deBruijn64tab)], narrowed := true }
def FnVerifyConsistencyUptoSaid : Prop := fnVerifyConsistencyUptoRow.holds Tryd.pinned (OpenSpec.upto fnVerifyConsistencySpec)

/-- 'laws.FnRangeGrows', WHERE WHAT IT READS IS OF BULK AT MOST 1048576: true; the input reads as it did. -/
def fnRangeGrowsUptoRow : OpenClaim := { program := "ytfhcpniibiobgaadoor", sum := "75d59a518488b978bed926d123bbb987b0f7e14439041cda66579adee56ea06b", func := "pub-sarsen/laws.FnRangeGrows", spec := "fnRangeGrows", unfollowed := true, recurses := true, named := ["math/bits.deBruijn64tab"], apart := false, laid := [("math/bits.deBruijn64tab", laid_math_bits_deBruijn64tab)], narrowed := true }
def FnRangeGrowsUptoSaid : Prop := fnRangeGrowsUptoRow.holds Tryd.pinned (OpenSpec.upto fnRangeGrowsSpec)

/-- 'laws.FnRangesTell', WHERE WHAT IT READS IS OF BULK AT MOST 1048576: true; the input reads as it did. -/
def fnRangesTellUptoRow : OpenClaim := { program := "ytfhcpniibiobgaadoor", sum := "75d59a518488b978bed926d123bbb987b0f7e14439041cda66579adee56ea06b", func := "pub-sarsen/laws.FnRangesTell", spec := "fnRangesTell", unfollowed := true, recurses := true, named := ["math/bits.deBruijn64tab"], apart := false, laid := [("math/bits.deBruijn64tab", laid_math_bits_deBruijn64tab)], narrowed := true }
def FnRangesTellUptoSaid : Prop := fnRangesTellUptoRow.holds Tryd.pinned (OpenSpec.upto fnRangesTellSpec)

/-- 'laws.FnRangeMergeGroups', WHERE WHAT IT READS IS OF BULK AT MOST 1048576: true; the input reads as it did. -/
def fnRangeMergeGroupsUptoRow : OpenClaim := { program := "ytfhcpniibiobgaadoor", sum := "75d59a518488b978bed926d123bbb987b0f7e14439041cda66579adee56ea06b", func := "pub-sarsen/laws.FnRangeMergeGroups", spec := "fnRangeMergeGroups", unfollowed := true, recurses := true, named := ["math/bits.deBruijn64tab"], apart := false, laid := [("math/bits.deBruijn64tab", laid_math_bits_deBruijn64tab)], narrowed := true }
def FnRangeMergeGroupsUptoSaid : Prop := fnRangeMergeGroupsUptoRow.holds Tryd.pinned (OpenSpec.upto fnRangeMergeGroupsSpec)

/-- 'laws.FnTreeConsistency', WHERE WHAT IT READS IS OF BULK AT MOST 1048576: true; the input reads as it did. -/
def fnTreeConsistencyUptoRow : OpenClaim := { program := "ytfhcpniibiobgaadoor", sum := "75d59a518488b978bed926d123bbb987b0f7e14439041cda66579adee56ea06b", func := "pub-sarsen/laws.FnTreeConsistency", spec := "fnTreeConsistency", unfollowed := true, recurses := true, named := ["math/bits.deBruijn64tab"], apart := false, laid := [("math/bits.deBruijn64tab", laid_math_bits_deBruijn64tab)], narrowed := true }
def FnTreeConsistencyUptoSaid : Prop := fnTreeConsistencyUptoRow.holds Tryd.pinned (OpenSpec.upto fnTreeConsistencySpec)

/-- 'laws.FnIncludedStays', WHERE WHAT IT READS IS OF BULK AT MOST 1048576: true; the input reads as it did. -/
def fnIncludedStaysUptoRow : OpenClaim := { program := "ytfhcpniibiobgaadoor", sum := "75d59a518488b978bed926d123bbb987b0f7e14439041cda66579adee56ea06b", func := "pub-sarsen/laws.FnIncludedStays", spec := "fnIncludedStays", unfollowed := true, recurses := true, named := ["math/bits.deBruijn64tab"], apart := false, laid := [("math/bits.deBruijn64tab", laid_math_bits_deBruijn64tab)], narrowed := true }
def FnIncludedStaysUptoSaid : Prop := fnIncludedStaysUptoRow.holds Tryd.pinned (OpenSpec.upto fnIncludedStaysSpec)

/-- 'laws.FnLastLeaf', WHERE WHAT IT READS IS OF BULK AT MOST 1048576: true; the input reads as it did. -/
def fnLastLeafUptoRow : OpenClaim := { program := "ytfhcpniibiobgaadoor", sum := "75d59a518488b978bed926d123bbb987b0f7e14439041cda66579adee56ea06b", func := "pub-sarsen/laws.FnLastLeaf", spec := "fnLastLeaf", unfollowed := true, recurses := true, named := ["math/bits.deBruijn64tab"], apart := false, laid := [("math/bits.deBruijn64tab", laid_math_bits_deBruijn64tab)], narrowed := true }
def FnLastLeafUptoSaid : Prop := fnLastLeafUptoRow.holds Tryd.pinned (OpenSpec.upto fnLastLeafSpec)

/-- 'laws.FnInclusionOfRanges', WHERE WHAT IT READS IS OF BULK AT MOST 1048576: true; the input reads as it did. -/
def fnInclusionOfRangesUptoRow : OpenClaim := { program := "ytfhcpniibiobgaadoor", sum := "75d59a518488b978bed926d123bbb987b0f7e14439041cda66579adee56ea06b", func := "pub-sarsen/laws.FnInclusionOfRanges", spec := "fnInclusionOfRanges", unfollowed := true, recurses := true, named := ["math/bits.deBruijn64tab"], apart := false, laid := [("math/bits.deBruijn64tab", laid_math_bits_deBruijn64tab)], narrowed := true }
def FnInclusionOfRangesUptoSaid : Prop := fnInclusionOfRangesUptoRow.holds Tryd.pinned (OpenSpec.upto fnInclusionOfRangesSpec)

end Rows
end Go.Proofs.YtfhcpniibiobgaaDoor
