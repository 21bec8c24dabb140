/-
  NARROWER THAN 'FOR EVERY INPUT', by the rows' own cells (each row's printed sentence says how): FnFieldRing: laid · FnFieldRoots: laid · FnFieldExponents: laid · FnVandermonde: laid · FnMatrixGroups: laid · FnMatrixEliminates: laid.
  DERIVED. THE GIVEN ROWS OF THIS SEAT. 6 by the template 'for every input the law returns true; each argument reads behind the call as it read before'; 0 by the template 'total and deterministic' (their statements: YtpjfokolbgcbhaaDoorTotals.lean).
  GIVEN WITH THE SEED: the statements are not yours to turn. If you find one false, say at which input.
  Laid BY PROGRAM, IN A SANDBOX (cutbox-rows.mjs): the forced cells as the released guide's own fill.sh prints them over the translation f674bc2a9870e740… (all of the seat's roots in one cut). By AI agents, Wed Nov 11 2026. No macro, syntax, notation, axiom, sorry.
-/
import Derived.Test.YtpjfokolbgcbhaaDoorChecked
import GoSem.Claim
import GoSem.ClaimJoined
import GoSem.ClaimMapViews
import Derived.JoinedTies
import Derived.KernelRfl
namespace Go.Proofs.YtpjfokolbgcbhaaDoor
/- THE CELL 'sum', in the pinned program and in every row, IS THE sha256 OF THE DUMP (.gsa) THAT YtpjfokolbgcbhaaDoorProg.lean LOADS. Nothing in Lean hashes anything: it is a label: what it is worth is what the hold of that sum in a sandbox is worth. -/
noncomputable def Tryd.pinned : Pinned := { name := "ytpjfokolbgcbhaadoor", sum := "f674bc2a9870e7409c98d59d39757afd178e926dab9ad4ffe9f2a161875d59e1", checked := Tryd.checked }
namespace Rows
def none {H : Type} : Left H := { results := [], args := [] }

/- WHAT THE LISTED PACKAGE-LEVEL VARIABLES READ AS WHEN THE CALL BEGINS. Each datum BY PROGRAM (the guide's laid-datum.mjs) off the statement by which the dump's own 'gosem.cut.vars' lays the variable. In a bare row this is a premise. The card (YtpjfokolbgcbhaaDoorCards.lean) ties it to the program's text. -/
def laid_pub_sarsen_pub_reedsolomon_logTable {H : Type} : DataW H := .agg [.lit (.int .u8 0), .lit (.int .u8 0), .lit (.int .u8 1), .lit (.int .u8 25), .lit (.int .u8 2), .lit (.int .u8 50), .lit (.int .u8 26), .lit (.int .u8 198), .lit (.int .u8 3), .lit (.int .u8 223), .lit (.int .u8 51), .lit (.int .u8 238), .lit (.int .u8 27), .lit (.int .u8 104), .lit (.int .u8 199), .lit (.int .u8 75), .lit (.int .u8 4), .lit (.int .u8 100), .lit (.int .u8 224), .lit (.int .u8 14), .lit (.int .u8 52), .lit (.int .u8 141), .lit (.int .u8 239), .lit (.int .u8 129), .lit (.int .u8 28), .lit (.int .u8 193), .lit (.int .u8 105), .lit (.int .u8 248), .lit (.int .u8 200), .lit (.int .u8 8), .lit (.int .u8 76), .lit (.int .u8 113), .lit (.int .u8 5), .lit (.int .u8 138), .lit (.int .u8 101), .lit (.int .u8 47), .lit (.int .u8 225), .lit (.int .u8 36), .lit (.int .u8 15), .lit (.int .u8 33), .lit (.int .u8 53), .lit (.int .u8 147), .lit (.int .u8 142), .lit (.int .u8 218), .lit (.int .u8 240), .lit (.int .u8 18), .lit (.int .u8 130), .lit (.int .u8 69), .lit (.int .u8 29), .lit (.int .u8 181), .lit (.int .u8 194), .lit (.int .u8 125), .lit (.int .u8 106), .lit (.int .u8 39), .lit (.int .u8 249), .lit (.int .u8 185), .lit (.int .u8 201), .lit (.int .u8 154), .lit (.int .u8 9), .lit (.int .u8 120), .lit (.int .u8 77), .lit (.int .u8 228), .lit (.int .u8 114), .lit (.int .u8 166), .lit (.int .u8 6), .lit (.int .u8 191), .lit (.int .u8 139), .lit (.int .u8 98), .lit (.int .u8 102), .lit (.int .u8 221), .lit (.int .u8 48), .lit (.int .u8 253), .lit (.int .u8 226), .lit (.int .u8 152), .lit (.int .u8 37), .lit (.int .u8 179), .lit (.int .u8 16), .lit (.int .u8 145), .lit (.int .u8 34), .lit (.int .u8 136), .lit (.int .u8 54), .lit (.int .u8 208), .lit (.int .u8 148), .lit (.int .u8 206), .lit (.int .u8 143), .lit (.int .u8 150), .lit (.int .u8 219), .lit (.int .u8 189), .lit (.int .u8 241), .lit (.int .u8 210), .lit (.int .u8 19), .lit (.int .u8 92), .lit (.int .u8 131), .lit (.int .u8 56), .lit (.int .u8 70), .lit (.int .u8 64), .lit (.int .u8 30), .lit (.int .u8 66), .lit (.int .u8 182), .lit (.int .u8 163), .lit (.int .u8 195), .lit (.int .u8 72), .lit (.int .u8 126), .lit (.int .u8 110), .lit (.int .u8 107), .lit (.int .u8 58), .lit (.int .u8 40), .lit (.int .u8 84), .lit (.int .u8 250), .lit (.int .u8 133), .lit (.int .u8 186), .lit (.int .u8 61), .lit (.int .u8 202), .lit (.int .u8 94), .lit (.int .u8 155), .lit (.int .u8 159), .lit (.int .u8 10), .lit (.int .u8 21), .lit (.int .u8 121), .lit (.int .u8 43), .lit (.int .u8 78), .lit (.int .u8 212), .lit (.int .u8 229), .lit (.int .u8 172), .lit (.int .u8 115), .lit (.int .u8 243), .lit (.int .u8 167), .lit (.int .u8 87), .lit (.int .u8 7), .lit (.int .u8 112), .lit (.int .u8 192), .lit (.int .u8 247), .lit (.int .u8 140), .lit (.int .u8 128), .lit (.int .u8 99), .lit (.int .u8 13), .lit (.int .u8 103), .lit (.int .u8 74), .lit (.int .u8 222), .lit (.int .u8 237), .lit (.int .u8 49), .lit (.int .u8 197), .lit (.int .u8 254), .lit (.int .u8 24), .lit (.int .u8 227), .lit (.int .u8 165), .lit (.int .u8 153), .lit (.int .u8 119), .lit (.int .u8 38), .lit (.int .u8 184), .lit (.int .u8 180), .lit (.int .u8 124), .lit (.int .u8 17), .lit (.int .u8 68), .lit (.int .u8 146), .lit (.int .u8 217), .lit (.int .u8 35), .lit (.int .u8 32), .lit (.int .u8 137), .lit (.int .u8 46), .lit (.int .u8 55), .lit (.int .u8 63), .lit (.int .u8 209), .lit (.int .u8 91), .lit (.int .u8 149), .lit (.int .u8 188), .lit (.int .u8 207), .lit (.int .u8 205), .lit (.int .u8 144), .lit (.int .u8 135), .lit (.int .u8 151), .lit (.int .u8 178), .lit (.int .u8 220), .lit (.int .u8 252), .lit (.int .u8 190), .lit (.int .u8 97), .lit (.int .u8 242), .lit (.int .u8 86), .lit (.int .u8 211), .lit (.int .u8 171), .lit (.int .u8 20), .lit (.int .u8 42), .lit (.int .u8 93), .lit (.int .u8 158), .lit (.int .u8 132), .lit (.int .u8 60), .lit (.int .u8 57), .lit (.int .u8 83), .lit (.int .u8 71), .lit (.int .u8 109), .lit (.int .u8 65), .lit (.int .u8 162), .lit (.int .u8 31), .lit (.int .u8 45), .lit (.int .u8 67), .lit (.int .u8 216), .lit (.int .u8 183), .lit (.int .u8 123), .lit (.int .u8 164), .lit (.int .u8 118), .lit (.int .u8 196), .lit (.int .u8 23), .lit (.int .u8 73), .lit (.int .u8 236), .lit (.int .u8 127), .lit (.int .u8 12), .lit (.int .u8 111), .lit (.int .u8 246), .lit (.int .u8 108), .lit (.int .u8 161), .lit (.int .u8 59), .lit (.int .u8 82), .lit (.int .u8 41), .lit (.int .u8 157), .lit (.int .u8 85), .lit (.int .u8 170), .lit (.int .u8 251), .lit (.int .u8 96), .lit (.int .u8 134), .lit (.int .u8 177), .lit (.int .u8 187), .lit (.int .u8 204), .lit (.int .u8 62), .lit (.int .u8 90), .lit (.int .u8 203), .lit (.int .u8 89), .lit (.int .u8 95), .lit (.int .u8 176), .lit (.int .u8 156), .lit (.int .u8 169), .lit (.int .u8 160), .lit (.int .u8 81), .lit (.int .u8 11), .lit (.int .u8 245), .lit (.int .u8 22), .lit (.int .u8 235), .lit (.int .u8 122), .lit (.int .u8 117), .lit (.int .u8 44), .lit (.int .u8 215), .lit (.int .u8 79), .lit (.int .u8 174), .lit (.int .u8 213), .lit (.int .u8 233), .lit (.int .u8 230), .lit (.int .u8 231), .lit (.int .u8 173), .lit (.int .u8 232), .lit (.int .u8 116), .lit (.int .u8 214), .lit (.int .u8 244), .lit (.int .u8 234), .lit (.int .u8 168), .lit (.int .u8 80), .lit (.int .u8 88), .lit (.int .u8 175)]
def laid_pub_sarsen_pub_reedsolomon_expTable {H : Type} : DataW H := .agg [.lit (.int .u8 1), .lit (.int .u8 2), .lit (.int .u8 4), .lit (.int .u8 8), .lit (.int .u8 16), .lit (.int .u8 32), .lit (.int .u8 64), .lit (.int .u8 128), .lit (.int .u8 29), .lit (.int .u8 58), .lit (.int .u8 116), .lit (.int .u8 232), .lit (.int .u8 205), .lit (.int .u8 135), .lit (.int .u8 19), .lit (.int .u8 38), .lit (.int .u8 76), .lit (.int .u8 152), .lit (.int .u8 45), .lit (.int .u8 90), .lit (.int .u8 180), .lit (.int .u8 117), .lit (.int .u8 234), .lit (.int .u8 201), .lit (.int .u8 143), .lit (.int .u8 3), .lit (.int .u8 6), .lit (.int .u8 12), .lit (.int .u8 24), .lit (.int .u8 48), .lit (.int .u8 96), .lit (.int .u8 192), .lit (.int .u8 157), .lit (.int .u8 39), .lit (.int .u8 78), .lit (.int .u8 156), .lit (.int .u8 37), .lit (.int .u8 74), .lit (.int .u8 148), .lit (.int .u8 53), .lit (.int .u8 106), .lit (.int .u8 212), .lit (.int .u8 181), .lit (.int .u8 119), .lit (.int .u8 238), .lit (.int .u8 193), .lit (.int .u8 159), .lit (.int .u8 35), .lit (.int .u8 70), .lit (.int .u8 140), .lit (.int .u8 5), .lit (.int .u8 10), .lit (.int .u8 20), .lit (.int .u8 40), .lit (.int .u8 80), .lit (.int .u8 160), .lit (.int .u8 93), .lit (.int .u8 186), .lit (.int .u8 105), .lit (.int .u8 210), .lit (.int .u8 185), .lit (.int .u8 111), .lit (.int .u8 222), .lit (.int .u8 161), .lit (.int .u8 95), .lit (.int .u8 190), .lit (.int .u8 97), .lit (.int .u8 194), .lit (.int .u8 153), .lit (.int .u8 47), .lit (.int .u8 94), .lit (.int .u8 188), .lit (.int .u8 101), .lit (.int .u8 202), .lit (.int .u8 137), .lit (.int .u8 15), .lit (.int .u8 30), .lit (.int .u8 60), .lit (.int .u8 120), .lit (.int .u8 240), .lit (.int .u8 253), .lit (.int .u8 231), .lit (.int .u8 211), .lit (.int .u8 187), .lit (.int .u8 107), .lit (.int .u8 214), .lit (.int .u8 177), .lit (.int .u8 127), .lit (.int .u8 254), .lit (.int .u8 225), .lit (.int .u8 223), .lit (.int .u8 163), .lit (.int .u8 91), .lit (.int .u8 182), .lit (.int .u8 113), .lit (.int .u8 226), .lit (.int .u8 217), .lit (.int .u8 175), .lit (.int .u8 67), .lit (.int .u8 134), .lit (.int .u8 17), .lit (.int .u8 34), .lit (.int .u8 68), .lit (.int .u8 136), .lit (.int .u8 13), .lit (.int .u8 26), .lit (.int .u8 52), .lit (.int .u8 104), .lit (.int .u8 208), .lit (.int .u8 189), .lit (.int .u8 103), .lit (.int .u8 206), .lit (.int .u8 129), .lit (.int .u8 31), .lit (.int .u8 62), .lit (.int .u8 124), .lit (.int .u8 248), .lit (.int .u8 237), .lit (.int .u8 199), .lit (.int .u8 147), .lit (.int .u8 59), .lit (.int .u8 118), .lit (.int .u8 236), .lit (.int .u8 197), .lit (.int .u8 151), .lit (.int .u8 51), .lit (.int .u8 102), .lit (.int .u8 204), .lit (.int .u8 133), .lit (.int .u8 23), .lit (.int .u8 46), .lit (.int .u8 92), .lit (.int .u8 184), .lit (.int .u8 109), .lit (.int .u8 218), .lit (.int .u8 169), .lit (.int .u8 79), .lit (.int .u8 158), .lit (.int .u8 33), .lit (.int .u8 66), .lit (.int .u8 132), .lit (.int .u8 21), .lit (.int .u8 42), .lit (.int .u8 84), .lit (.int .u8 168), .lit (.int .u8 77), .lit (.int .u8 154), .lit (.int .u8 41), .lit (.int .u8 82), .lit (.int .u8 164), .lit (.int .u8 85), .lit (.int .u8 170), .lit (.int .u8 73), .lit (.int .u8 146), .lit (.int .u8 57), .lit (.int .u8 114), .lit (.int .u8 228), .lit (.int .u8 213), .lit (.int .u8 183), .lit (.int .u8 115), .lit (.int .u8 230), .lit (.int .u8 209), .lit (.int .u8 191), .lit (.int .u8 99), .lit (.int .u8 198), .lit (.int .u8 145), .lit (.int .u8 63), .lit (.int .u8 126), .lit (.int .u8 252), .lit (.int .u8 229), .lit (.int .u8 215), .lit (.int .u8 179), .lit (.int .u8 123), .lit (.int .u8 246), .lit (.int .u8 241), .lit (.int .u8 255), .lit (.int .u8 227), .lit (.int .u8 219), .lit (.int .u8 171), .lit (.int .u8 75), .lit (.int .u8 150), .lit (.int .u8 49), .lit (.int .u8 98), .lit (.int .u8 196), .lit (.int .u8 149), .lit (.int .u8 55), .lit (.int .u8 110), .lit (.int .u8 220), .lit (.int .u8 165), .lit (.int .u8 87), .lit (.int .u8 174), .lit (.int .u8 65), .lit (.int .u8 130), .lit (.int .u8 25), .lit (.int .u8 50), .lit (.int .u8 100), .lit (.int .u8 200), .lit (.int .u8 141), .lit (.int .u8 7), .lit (.int .u8 14), .lit (.int .u8 28), .lit (.int .u8 56), .lit (.int .u8 112), .lit (.int .u8 224), .lit (.int .u8 221), .lit (.int .u8 167), .lit (.int .u8 83), .lit (.int .u8 166), .lit (.int .u8 81), .lit (.int .u8 162), .lit (.int .u8 89), .lit (.int .u8 178), .lit (.int .u8 121), .lit (.int .u8 242), .lit (.int .u8 249), .lit (.int .u8 239), .lit (.int .u8 195), .lit (.int .u8 155), .lit (.int .u8 43), .lit (.int .u8 86), .lit (.int .u8 172), .lit (.int .u8 69), .lit (.int .u8 138), .lit (.int .u8 9), .lit (.int .u8 18), .lit (.int .u8 36), .lit (.int .u8 72), .lit (.int .u8 144), .lit (.int .u8 61), .lit (.int .u8 122), .lit (.int .u8 244), .lit (.int .u8 245), .lit (.int .u8 247), .lit (.int .u8 243), .lit (.int .u8 251), .lit (.int .u8 235), .lit (.int .u8 203), .lit (.int .u8 139), .lit (.int .u8 11), .lit (.int .u8 22), .lit (.int .u8 44), .lit (.int .u8 88), .lit (.int .u8 176), .lit (.int .u8 125), .lit (.int .u8 250), .lit (.int .u8 233), .lit (.int .u8 207), .lit (.int .u8 131), .lit (.int .u8 27), .lit (.int .u8 54), .lit (.int .u8 108), .lit (.int .u8 216), .lit (.int .u8 173), .lit (.int .u8 71), .lit (.int .u8 142), .lit (.int .u8 1)]
def laid_pub_sarsen_pub_reedsolomon_errInvalidRowSize {H : Type} : DataW H := .iface "*errors.errorString" (.ptr (.agg [.lit (.string [105, 110, 118, 97, 108, 105, 100, 32, 114, 111, 119, 32, 115, 105, 122, 101])]))
def laid_pub_sarsen_pub_reedsolomon_errInvalidColSize {H : Type} : DataW H := .iface "*errors.errorString" (.ptr (.agg [.lit (.string [105, 110, 118, 97, 108, 105, 100, 32, 99, 111, 108, 117, 109, 110, 32, 115, 105, 122, 101])]))
def laid_pub_sarsen_pub_reedsolomon_errColSizeMismatch {H : Type} : DataW H := .iface "*errors.errorString" (.ptr (.agg [.lit (.string [99, 111, 108, 117, 109, 110, 32, 115, 105, 122, 101, 32, 105, 115, 32, 110, 111, 116, 32, 116, 104, 101, 32, 115, 97, 109, 101, 32, 102, 111, 114, 32, 97, 108, 108, 32, 114, 111, 119, 115])]))
def laid_pub_sarsen_pub_reedsolomon_errSingular {H : Type} : DataW H := .iface "*errors.errorString" (.ptr (.agg [.lit (.string [109, 97, 116, 114, 105, 120, 32, 105, 115, 32, 115, 105, 110, 103, 117, 108, 97, 114])]))

/-- 'laws.FnFieldRing': WHATEVER THE INPUT: true; the input reads as it did. -/
def fnFieldRingSpec : ChangeSpec := { name := "fnFieldRing", fn := fun _ => fun
  | [d1, d2, d3] => { results := [.lit (.bool true)], args := [d1, d2, d3] }
  | _ => none }
def fnFieldRingRow : OpenClaim := { program := "ytpjfokolbgcbhaadoor", sum := "f674bc2a9870e7409c98d59d39757afd178e926dab9ad4ffe9f2a161875d59e1", func := "pub-sarsen/laws.FnFieldRing", spec := "fnFieldRing", named := ["pub-sarsen/pub/reedsolomon.logTable", "pub-sarsen/pub/reedsolomon.expTable"], apart := false, laid := [("pub-sarsen/pub/reedsolomon.logTable", laid_pub_sarsen_pub_reedsolomon_logTable), ("pub-sarsen/pub/reedsolomon.expTable", laid_pub_sarsen_pub_reedsolomon_expTable)] }
def FnFieldRingSaid : Prop := fnFieldRingRow.holds Tryd.pinned (OpenSpec.ofChange fnFieldRingSpec)

/-- ITS FALSE NEIGHBOUR: 'it returns false'. Refute it at one input. -/
def fnFieldRingWrong : ChangeSpec := { name := "fnFieldRing", fn := fun _ => fun
  | [d1, d2, d3] => { results := [.lit (.bool false)], args := [d1, d2, d3] }
  | _ => none }
def FnFieldRingWrongFalsely : Prop := fnFieldRingRow.holds Tryd.pinned (OpenSpec.ofChange fnFieldRingWrong)

/-- 'laws.FnFieldRoots': WHATEVER THE INPUT: true; the input reads as it did. -/
def fnFieldRootsSpec : ChangeSpec := { name := "fnFieldRoots", fn := fun _ => fun
  | [d] => { results := [.lit (.bool true)], args := [d] }
  | _ => none }
def fnFieldRootsRow : OpenClaim := { program := "ytpjfokolbgcbhaadoor", sum := "f674bc2a9870e7409c98d59d39757afd178e926dab9ad4ffe9f2a161875d59e1", func := "pub-sarsen/laws.FnFieldRoots", spec := "fnFieldRoots", named := ["pub-sarsen/pub/reedsolomon.logTable", "pub-sarsen/pub/reedsolomon.expTable"], apart := false, laid := [("pub-sarsen/pub/reedsolomon.logTable", laid_pub_sarsen_pub_reedsolomon_logTable), ("pub-sarsen/pub/reedsolomon.expTable", laid_pub_sarsen_pub_reedsolomon_expTable)] }
def FnFieldRootsSaid : Prop := fnFieldRootsRow.holds Tryd.pinned (OpenSpec.ofChange fnFieldRootsSpec)

/-- ITS FALSE NEIGHBOUR: 'it returns false'. Refute it at one input. -/
def fnFieldRootsWrong : ChangeSpec := { name := "fnFieldRoots", fn := fun _ => fun
  | [d] => { results := [.lit (.bool false)], args := [d] }
  | _ => none }
def FnFieldRootsWrongFalsely : Prop := fnFieldRootsRow.holds Tryd.pinned (OpenSpec.ofChange fnFieldRootsWrong)

/-- 'laws.FnFieldExponents': WHATEVER THE INPUT: true; the input reads as it did. -/
def fnFieldExponentsSpec : ChangeSpec := { name := "fnFieldExponents", fn := fun _ => fun
  | [d1, d2, d3] => { results := [.lit (.bool true)], args := [d1, d2, d3] }
  | _ => none }
def fnFieldExponentsRow : OpenClaim := { program := "ytpjfokolbgcbhaadoor", sum := "f674bc2a9870e7409c98d59d39757afd178e926dab9ad4ffe9f2a161875d59e1", func := "pub-sarsen/laws.FnFieldExponents", spec := "fnFieldExponents", named := ["pub-sarsen/pub/reedsolomon.logTable", "pub-sarsen/pub/reedsolomon.expTable"], apart := false, laid := [("pub-sarsen/pub/reedsolomon.logTable", laid_pub_sarsen_pub_reedsolomon_logTable), ("pub-sarsen/pub/reedsolomon.expTable", laid_pub_sarsen_pub_reedsolomon_expTable)] }
def FnFieldExponentsSaid : Prop := fnFieldExponentsRow.holds Tryd.pinned (OpenSpec.ofChange fnFieldExponentsSpec)

/-- ITS FALSE NEIGHBOUR: 'it returns false'. Refute it at one input. -/
def fnFieldExponentsWrong : ChangeSpec := { name := "fnFieldExponents", fn := fun _ => fun
  | [d1, d2, d3] => { results := [.lit (.bool false)], args := [d1, d2, d3] }
  | _ => none }
def FnFieldExponentsWrongFalsely : Prop := fnFieldExponentsRow.holds Tryd.pinned (OpenSpec.ofChange fnFieldExponentsWrong)

/-- 'laws.FnVandermonde': WHATEVER THE INPUT: true; the input reads as it did. -/
def fnVandermondeSpec : ChangeSpec := { name := "fnVandermonde", fn := fun _ => fun
  | [d1, d2] => { results := [.lit (.bool true)], args := [d1, d2] }
  | _ => none }
def fnVandermondeRow : OpenClaim := { program := "ytpjfokolbgcbhaadoor", sum := "f674bc2a9870e7409c98d59d39757afd178e926dab9ad4ffe9f2a161875d59e1", func := "pub-sarsen/laws.FnVandermonde", spec := "fnVandermonde", named := ["pub-sarsen/pub/reedsolomon.errInvalidRowSize", "pub-sarsen/pub/reedsolomon.errInvalidColSize", "pub-sarsen/pub/reedsolomon.logTable", "pub-sarsen/pub/reedsolomon.expTable"], apart := false, laid := [("pub-sarsen/pub/reedsolomon.logTable", laid_pub_sarsen_pub_reedsolomon_logTable), ("pub-sarsen/pub/reedsolomon.expTable", laid_pub_sarsen_pub_reedsolomon_expTable), ("pub-sarsen/pub/reedsolomon.errInvalidRowSize", laid_pub_sarsen_pub_reedsolomon_errInvalidRowSize), ("pub-sarsen/pub/reedsolomon.errInvalidColSize", laid_pub_sarsen_pub_reedsolomon_errInvalidColSize)] }
def FnVandermondeSaid : Prop := fnVandermondeRow.holds Tryd.pinned (OpenSpec.ofChange fnVandermondeSpec)

/-- ITS FALSE NEIGHBOUR: 'it returns false'. Refute it at one input. -/
def fnVandermondeWrong : ChangeSpec := { name := "fnVandermonde", fn := fun _ => fun
  | [d1, d2] => { results := [.lit (.bool false)], args := [d1, d2] }
  | _ => none }
def FnVandermondeWrongFalsely : Prop := fnVandermondeRow.holds Tryd.pinned (OpenSpec.ofChange fnVandermondeWrong)

/-- 'laws.FnMatrixGroups': WHATEVER THE INPUT: true; the input reads as it did. -/
def fnMatrixGroupsSpec : ChangeSpec := { name := "fnMatrixGroups", fn := fun _ => fun
  | [d1, d2, d3] => { results := [.lit (.bool true)], args := [d1, d2, d3] }
  | _ => none }
def fnMatrixGroupsRow : OpenClaim := { program := "ytpjfokolbgcbhaadoor", sum := "f674bc2a9870e7409c98d59d39757afd178e926dab9ad4ffe9f2a161875d59e1", func := "pub-sarsen/laws.FnMatrixGroups", spec := "fnMatrixGroups", named := ["pub-sarsen/pub/reedsolomon.errInvalidRowSize", "pub-sarsen/pub/reedsolomon.errInvalidColSize", "pub-sarsen/pub/reedsolomon.errColSizeMismatch", "pub-sarsen/pub/reedsolomon.logTable", "pub-sarsen/pub/reedsolomon.expTable"], apart := false, laid := [("pub-sarsen/pub/reedsolomon.logTable", laid_pub_sarsen_pub_reedsolomon_logTable), ("pub-sarsen/pub/reedsolomon.expTable", laid_pub_sarsen_pub_reedsolomon_expTable), ("pub-sarsen/pub/reedsolomon.errInvalidRowSize", laid_pub_sarsen_pub_reedsolomon_errInvalidRowSize), ("pub-sarsen/pub/reedsolomon.errInvalidColSize", laid_pub_sarsen_pub_reedsolomon_errInvalidColSize), ("pub-sarsen/pub/reedsolomon.errColSizeMismatch", laid_pub_sarsen_pub_reedsolomon_errColSizeMismatch)] }
def FnMatrixGroupsSaid : Prop := fnMatrixGroupsRow.holds Tryd.pinned (OpenSpec.ofChange fnMatrixGroupsSpec)

/-- ITS FALSE NEIGHBOUR: 'it returns false'. Refute it at one input. -/
def fnMatrixGroupsWrong : ChangeSpec := { name := "fnMatrixGroups", fn := fun _ => fun
  | [d1, d2, d3] => { results := [.lit (.bool false)], args := [d1, d2, d3] }
  | _ => none }
def FnMatrixGroupsWrongFalsely : Prop := fnMatrixGroupsRow.holds Tryd.pinned (OpenSpec.ofChange fnMatrixGroupsWrong)

/-- 'laws.FnMatrixEliminates': WHATEVER THE INPUT: true; the input reads as it did. -/
def fnMatrixEliminatesSpec : ChangeSpec := { name := "fnMatrixEliminates", fn := fun _ => fun
  | [d] => { results := [.lit (.bool true)], args := [d] }
  | _ => none }
def fnMatrixEliminatesRow : OpenClaim := { program := "ytpjfokolbgcbhaadoor", sum := "f674bc2a9870e7409c98d59d39757afd178e926dab9ad4ffe9f2a161875d59e1", func := "pub-sarsen/laws.FnMatrixEliminates", spec := "fnMatrixEliminates", named := ["pub-sarsen/pub/reedsolomon.errInvalidRowSize", "pub-sarsen/pub/reedsolomon.errInvalidColSize", "pub-sarsen/pub/reedsolomon.errColSizeMismatch", "pub-sarsen/pub/reedsolomon.errSingular", "pub-sarsen/pub/reedsolomon.logTable", "pub-sarsen/pub/reedsolomon.expTable"], apart := false, laid := [("pub-sarsen/pub/reedsolomon.logTable", laid_pub_sarsen_pub_reedsolomon_logTable), ("pub-sarsen/pub/reedsolomon.expTable", laid_pub_sarsen_pub_reedsolomon_expTable), ("pub-sarsen/pub/reedsolomon.errInvalidRowSize", laid_pub_sarsen_pub_reedsolomon_errInvalidRowSize), ("pub-sarsen/pub/reedsolomon.errInvalidColSize", laid_pub_sarsen_pub_reedsolomon_errInvalidColSize), ("pub-sarsen/pub/reedsolomon.errColSizeMismatch", laid_pub_sarsen_pub_reedsolomon_errColSizeMismatch), ("pub-sarsen/pub/reedsolomon.errSingular", laid_pub_sarsen_pub_reedsolomon_errSingular)] }
def FnMatrixEliminatesSaid : Prop := fnMatrixEliminatesRow.holds Tryd.pinned (OpenSpec.ofChange fnMatrixEliminatesSpec)

/-- ITS FALSE NEIGHBOUR: 'it returns false'. Refute it at one input. -/
def fnMatrixEliminatesWrong : ChangeSpec := { name := "fnMatrixEliminates", fn := fun _ => fun
  | [d] => { results := [.lit (.bool false)], args := [d] }
  | _ => none }
def FnMatrixEliminatesWrongFalsely : Prop := fnMatrixEliminatesRow.holds Tryd.pinned (OpenSpec.ofChange fnMatrixEliminatesWrong)

/- THE SECOND FORM. 'bulk': how many values and letters a reading holds, each counted each time it is reached (what is shared counts as often as it is met; a slice's spare places count too). A statement '..UptoSaid' is the law's where the arguments, and the package variables that the reading takes, are together of bulk at most 1048576: NARROWER than '..Said'. Prove '..Said' where nothing that the law and all that it calls make is longer than what came in: it says more and counts as full. Else prove '..UptoSaid'. A law counts once. -/
mutual
def uptoBulk {H : Type} : DataW H → Nat
  | .lit (.string bytes) => bytes.length + 1
  | .lit _ => 1
  | .nil => 1
  | .ptr d => uptoBulk d + 1
  | .slice elems spare => uptoBulkAll elems + uptoBulkAll spare + 1
  | .agg parts => uptoBulkAll parts + 1
  | .iface _ d => uptoBulk d + 1
  | .map entries => uptoBulkEntries entries + 1
  | .held _ => 1
def uptoBulkAll {H : Type} : List (DataW H) → Nat
  | [] => 0
  | d :: r => uptoBulk d + uptoBulkAll r
def uptoBulkEntries {H : Type} : List (Lit × DataW H) → Nat
  | [] => 0
  | x :: r => uptoBulkEntry x + uptoBulkEntries r
def uptoBulkEntry {H : Type} : Lit × DataW H → Nat
  | (.string bytes, d) => bytes.length + uptoBulk d + 1
  | (_, d) => uptoBulk d + 1
 end
def uptoSmall : (H : Type) → List (DataW H) → Bool := fun _ ds => decide (uptoBulkAll ds ≤ 1048576)
def OpenSpec.upto (s : _root_.Go.ChangeSpec) : _root_.Go.OpenSpec := { _root_.Go.OpenSpec.ofChange s with cond := some uptoSmall }

/-- 'laws.FnFieldRing', WHERE WHAT IT READS IS OF BULK AT MOST 1048576: true; the input reads as it did. -/
def fnFieldRingUptoRow : OpenClaim := { program := "ytpjfokolbgcbhaadoor", sum := "f674bc2a9870e7409c98d59d39757afd178e926dab9ad4ffe9f2a161875d59e1", func := "pub-sarsen/laws.FnFieldRing", spec := "fnFieldRing", named := ["pub-sarsen/pub/reedsolomon.logTable", "pub-sarsen/pub/reedsolomon.expTable"], apart := false, laid := [("pub-sarsen/pub/reedsolomon.logTable", laid_pub_sarsen_pub_reedsolomon_logTable), ("pub-sarsen/pub/reedsolomon.expTable", laid_pub_sarsen_pub_reedsolomon_expTable)], narrowed := true }
def FnFieldRingUptoSaid : Prop := fnFieldRingUptoRow.holds Tryd.pinned (OpenSpec.upto fnFieldRingSpec)

/-- 'laws.FnFieldRoots', WHERE WHAT IT READS IS OF BULK AT MOST 1048576: true; the input reads as it did. -/
def fnFieldRootsUptoRow : OpenClaim := { program := "ytpjfokolbgcbhaadoor", sum := "f674bc2a9870e7409c98d59d39757afd178e926dab9ad4ffe9f2a161875d59e1", func := "pub-sarsen/laws.FnFieldRoots", spec := "fnFieldRoots", named := ["pub-sarsen/pub/reedsolomon.logTable", "pub-sarsen/pub/reedsolomon.expTable"], apart := false, laid := [("pub-sarsen/pub/reedsolomon.logTable", laid_pub_sarsen_pub_reedsolomon_logTable), ("pub-sarsen/pub/reedsolomon.expTable", laid_pub_sarsen_pub_reedsolomon_expTable)], narrowed := true }
def FnFieldRootsUptoSaid : Prop := fnFieldRootsUptoRow.holds Tryd.pinned (OpenSpec.upto fnFieldRootsSpec)

/-- 'laws.FnFieldExponents', WHERE WHAT IT READS IS OF BULK AT MOST 1048576: true; the input reads as it did. -/
def fnFieldExponentsUptoRow : OpenClaim := { program := "ytpjfokolbgcbhaadoor", sum := "f674bc2a9870e7409c98d59d39757afd178e926dab9ad4ffe9f2a161875d59e1", func := "pub-sarsen/laws.FnFieldExponents", spec := "fnFieldExponents", named := ["pub-sarsen/pub/reedsolomon.logTable", "pub-sarsen/pub/reedsolomon.expTable"], apart := false, laid := [("pub-sarsen/pub/reedsolomon.logTable", laid_pub_sarsen_pub_reedsolomon_logTable), ("pub-sarsen/pub/reedsolomon.expTable", laid_pub_sarsen_pub_reedsolomon_expTable)], narrowed := true }
def FnFieldExponentsUptoSaid : Prop := fnFieldExponentsUptoRow.holds Tryd.pinned (OpenSpec.upto fnFieldExponentsSpec)

/-- 'laws.FnVandermonde', WHERE WHAT IT READS IS OF BULK AT MOST 1048576: true; the input reads as it did. -/
def fnVandermondeUptoRow : OpenClaim := { program := "ytpjfokolbgcbhaadoor", sum := "f674bc2a9870e7409c98d59d39757afd178e926dab9ad4ffe9f2a161875d59e1", func := "pub-sarsen/laws.FnVandermonde", spec := "fnVandermonde", named := ["pub-sarsen/pub/reedsolomon.errInvalidRowSize", "pub-sarsen/pub/reedsolomon.errInvalidColSize", "pub-sarsen/pub/reedsolomon.logTable", "pub-sarsen/pub/reedsolomon.expTable"], apart := false, laid := [("pub-sarsen/pub/reedsolomon.logTable", laid_pub_sarsen_pub_reedsolomon_logTable), ("pub-sarsen/pub/reedsolomon.expTable", laid_pub_sarsen_pub_reedsolomon_expTable), ("pub-sarsen/pub/reedsolomon.errInvalidRowSize", laid_pub_sarsen_pub_reedsolomon_errInvalidRowSize), ("pub-sarsen/pub/reedsolomon.errInvalidColSize", laid_pub_sarsen_pub_reedsolomon_errInvalidColSize)], narrowed := true }
def FnVandermondeUptoSaid : Prop := fnVandermondeUptoRow.holds Tryd.pinned (OpenSpec.upto fnVandermondeSpec)

/-- 'laws.FnMatrixGroups', WHERE WHAT IT READS IS OF BULK AT MOST 1048576: true; the input reads as it did. -/
def fnMatrixGroupsUptoRow : OpenClaim := { program := "ytpjfokolbgcbhaadoor", sum := "f674bc2a9870e7409c98d59d39757afd178e926dab9ad4ffe9f2a161875d59e1", func := "pub-sarsen/laws.FnMatrixGroups", spec := "fnMatrixGroups", named := ["pub-sarsen/pub/reedsolomon.errInvalidRowSize", "pub-sarsen/pub/reedsolomon.errInvalidColSize", "pub-sarsen/pub/reedsolomon.errColSizeMismatch", "pub-sarsen/pub/reedsolomon.logTable", "pub-sarsen/pub/reedsolomon.expTable"], apart := false, laid := [("pub-sarsen/pub/reedsolomon.logTable", laid_pub_sarsen_pub_reedsolomon_logTable), ("pub-sarsen/pub/reedsolomon.expTable", laid_pub_sarsen_pub_reedsolomon_expTable), ("pub-sarsen/pub/reedsolomon.errInvalidRowSize", laid_pub_sarsen_pub_reedsolomon_errInvalidRowSize), ("pub-sarsen/pub/reedsolomon.errInvalidColSize", laid_pub_sarsen_pub_reedsolomon_errInvalidColSize), ("pub-sarsen/pub/reedsolomon.errColSizeMismatch", laid_pub_sarsen_pub_reedsolomon_errColSizeMismatch)], narrowed := true }
def FnMatrixGroupsUptoSaid : Prop := fnMatrixGroupsUptoRow.holds Tryd.pinned (OpenSpec.upto fnMatrixGroupsSpec)

/-- 'laws.FnMatrixEliminates', WHERE WHAT IT READS IS OF BULK AT MOST 1048576: true; the input reads as it did. -/
def fnMatrixEliminatesUptoRow : OpenClaim := { program := "ytpjfokolbgcbhaadoor", sum := "f674bc2a9870e7409c98d59d39757afd178e926dab9ad4ffe9f2a161875d59e1", func := "pub-sarsen/laws.FnMatrixEliminates", spec := "fnMatrixEliminates", named := ["pub-sarsen/pub/reedsolomon.errInvalidRowSize", "pub-sarsen/pub/reedsolomon.errInvalidColSize", "pub-sarsen/pub/reedsolomon.errColSizeMismatch", "pub-sarsen/pub/reedsolomon.errSingular", "pub-sarsen/pub/reedsolomon.logTable", "pub-sarsen/pub/reedsolomon.expTable"], apart := false, laid := [("pub-sarsen/pub/reedsolomon.logTable", laid_pub_sarsen_pub_reedsolomon_logTable), ("pub-sarsen/pub/reedsolomon.expTable", laid_pub_sarsen_pub_reedsolomon_expTable), ("pub-sarsen/pub/reedsolomon.errInvalidRowSize", laid_pub_sarsen_pub_reedsolomon_errInvalidRowSize), ("pub-sarsen/pub/reedsolomon.errInvalidColSize", laid_pub_sarsen_pub_reedsolomon_errInvalidColSize), ("pub-sarsen/pub/reedsolomon.errColSizeMismatch", laid_pub_sarsen_pub_reedsolomon_errColSizeMismatch), ("pub-sarsen/pub/reedsolomon.errSingular", laid_pub_sarsen_pub_reedsolomon_errSingular)], narrowed := true }
def FnMatrixEliminatesUptoSaid : Prop := fnMatrixEliminatesUptoRow.holds Tryd.pinned (OpenSpec.upto fnMatrixEliminatesSpec)

end Rows
end Go.Proofs.YtpjfokolbgcbhaaDoor
