/-
  No cell of these rows narrows 'for every input' (looked for: loops, veiled, ifaces, maps, wideKeys, modest, calm, conditions, laid).
  DERIVED. THE GIVEN ROWS OF THIS SEAT. 2 by the template 'for every input the law returns true; each argument reads behind the call as it read before'; 0 by the template 'total and deterministic' (their statements: YtpjfokolbgcbhaaTotals.lean).
  GIVEN WITH THE SEED: the statements are not yours to turn. If you find one false, say at which input.
  Laid BY PROGRAM, IN A SANDBOX (cutbox-rows.mjs): the forced cells as the released guide's own fill.sh prints them over the translation 83d92d8df5bd3c5e… (all of the seat's roots in one cut). By AI agents, Wed Nov 11 2026. No macro, syntax, notation, axiom, sorry.
-/
import Derived.Test.YtpjfokolbgcbhaaChecked
import GoSem.Claim
import GoSem.ClaimJoined
import GoSem.ClaimMapViews
import Derived.JoinedTies
import Derived.KernelRfl
namespace Go.Proofs.Ytpjfokolbgcbhaa
/- THE CELL 'sum', in the pinned program and in every row, IS THE sha256 OF THE DUMP (.gsa) THAT YtpjfokolbgcbhaaProg.lean LOADS. Nothing in Lean hashes anything: it is a label: what it is worth is what the hold of that sum in a sandbox is worth. -/
noncomputable def Try.pinned : Pinned := { name := "ytpjfokolbgcbhaa", sum := "83d92d8df5bd3c5ecacc0adc1338c422402b5fb5c2a8a24d09b2935a1492bafd", checked := Try.checked }
namespace Rows
def none {H : Type} : Left H := { results := [], args := [] }

/-- 'laws.FnLeopardModulo': WHATEVER THE INPUT: true; the input reads as it did. -/
def fnLeopardModuloSpec : ChangeSpec := { name := "fnLeopardModulo", fn := fun _ => fun
  | [d1, d2] => { results := [.lit (.bool true)], args := [d1, d2] }
  | _ => none }
def fnLeopardModuloRow : OpenClaim := { program := "ytpjfokolbgcbhaa", sum := "83d92d8df5bd3c5ecacc0adc1338c422402b5fb5c2a8a24d09b2935a1492bafd", func := "pub-sarsen/laws.FnLeopardModulo", spec := "fnLeopardModulo", apart := false }
def FnLeopardModuloSaid : Prop := fnLeopardModuloRow.holds Try.pinned (OpenSpec.ofChange fnLeopardModuloSpec)

/-- ITS FALSE NEIGHBOUR: 'it returns false'. Refute it at one input. -/
def fnLeopardModuloWrong : ChangeSpec := { name := "fnLeopardModulo", fn := fun _ => fun
  | [d1, d2] => { results := [.lit (.bool false)], args := [d1, d2] }
  | _ => none }
def FnLeopardModuloWrongFalsely : Prop := fnLeopardModuloRow.holds Try.pinned (OpenSpec.ofChange fnLeopardModuloWrong)

/-- 'laws.FnFits': WHATEVER THE INPUT: true; the input reads as it did. -/
def fnFitsSpec : ChangeSpec := { name := "fnFits", fn := fun _ => fun
  | [d1, d2, d3] => { results := [.lit (.bool true)], args := [d1, d2, d3] }
  | _ => none }
def fnFitsRow : OpenClaim := { program := "ytpjfokolbgcbhaa", sum := "83d92d8df5bd3c5ecacc0adc1338c422402b5fb5c2a8a24d09b2935a1492bafd", func := "pub-sarsen/laws.FnFits", spec := "fnFits", apart := false }
def FnFitsSaid : Prop := fnFitsRow.holds Try.pinned (OpenSpec.ofChange fnFitsSpec)

/-- ITS FALSE NEIGHBOUR: 'it returns false'. Refute it at one input. -/
def fnFitsWrong : ChangeSpec := { name := "fnFits", fn := fun _ => fun
  | [d1, d2, d3] => { results := [.lit (.bool false)], args := [d1, d2, d3] }
  | _ => none }
def FnFitsWrongFalsely : Prop := fnFitsRow.holds Try.pinned (OpenSpec.ofChange fnFitsWrong)

/- THE SECOND FORM. 'bulk': how many values and letters a reading holds, each counted each time it is reached (what is shared counts as often as it is met; a slice's spare places count too). A statement '..UptoSaid' is the law's where the arguments, and the package variables that the reading takes, are together of bulk at most 1048576: NARROWER than '..Said'. Prove '..Said' where nothing that the law and all that it calls make is longer than what came in: it says more and counts as full. Else prove '..UptoSaid'. A law counts once. -/
mutual
def uptoBulk {H : Type} : DataW H → Nat
  | .lit (.string bytes) => bytes.length + 1
  | .lit _ => 1
  | .nil => 1
  | .ptr d => uptoBulk d + 1
  | .slice elems spare => uptoBulkAll elems + uptoBulkAll spare + 1
  | .agg parts => uptoBulkAll parts + 1
  | .iface _ d => uptoBulk d + 1
  | .map entries => uptoBulkEntries entries + 1
  | .held _ => 1
def uptoBulkAll {H : Type} : List (DataW H) → Nat
  | [] => 0
  | d :: r => uptoBulk d + uptoBulkAll r
def uptoBulkEntries {H : Type} : List (Lit × DataW H) → Nat
  | [] => 0
  | x :: r => uptoBulkEntry x + uptoBulkEntries r
def uptoBulkEntry {H : Type} : Lit × DataW H → Nat
  | (.string bytes, d) => bytes.length + uptoBulk d + 1
  | (_, d) => uptoBulk d + 1
 end
def uptoSmall : (H : Type) → List (DataW H) → Bool := fun _ ds => decide (uptoBulkAll ds ≤ 1048576)
def OpenSpec.upto (s : _root_.Go.ChangeSpec) : _root_.Go.OpenSpec := { _root_.Go.OpenSpec.ofChange s with cond := some uptoSmall }

/-- 'laws.FnLeopardModulo', WHERE WHAT IT READS IS OF BULK AT MOST 1048576: true; the input reads as it did. -/
def fnLeopardModuloUptoRow : OpenClaim := { program := "ytpjfokolbgcbhaa", sum := "83d92d8df5bd3c5ecacc0adc1338c422402b5fb5c2a8a24d09b2935a1492bafd", func := "pub-sarsen/laws.FnLeopardModulo", spec := "fnLeopardModulo", apart := false, narrowed := true }
def FnLeopardModuloUptoSaid : Prop := fnLeopardModuloUptoRow.holds Try.pinned (OpenSpec.upto fnLeopardModuloSpec)

/-- 'laws.FnFits', WHERE WHAT IT READS IS OF BULK AT MOST 1048576: true; the input reads as it did. -/
def fnFitsUptoRow : OpenClaim := { program := "ytpjfokolbgcbhaa", sum := "83d92d8df5bd3c5ecacc0adc1338c422402b5fb5c2a8a24d09b2935a1492bafd", func := "pub-sarsen/laws.FnFits", spec := "fnFits", apart := false, narrowed := true }
def FnFitsUptoSaid : Prop := fnFitsUptoRow.holds Try.pinned (OpenSpec.upto fnFitsSpec)

end Rows
end Go.Proofs.Ytpjfokolbgcbhaa
