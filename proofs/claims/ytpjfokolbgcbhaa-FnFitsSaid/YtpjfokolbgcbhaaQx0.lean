-- Written by wip/tools/myprint.py for this seat (the kit's print with changes); Lean checks it.
import Derived.Test.YtpjfokolbgcbhaaProg
import Derived.Below
import Derived.Deep.Draws
import Derived.Deep.AppendLies
import Derived.Maps.AppendAt
import Derived.OwnWalk
import Derived.Laws.BytesArg
import Derived.Laws.MakeOwn
import Derived.Laws.OwnMore
import Derived.Deep.OwnRows
import Derived.Tactics
import Derived.Lib.ConvBytes
import Derived.Laws.Slices
import Derived.WalkKit
import Derived.KernelRfl
import Derived.RowKit3
import Derived.Deep.LoopGhost
import Derived.Deep.QuietTactic
import Derived.BigQuiet
import Derived.WideLaws
import Derived.Deep.DeepCutAuto
import Derived.Deep.CutBlock
import Derived.Deep.RegionHeld3
import Derived.Laws.Rows
import Derived.Lib.AppendStr
import Derived.ArgAppend
import Derived.Laws.IdiomCopy
import Derived.OrdersHeld
import Derived.Laws.BitsLemmas
import Derived.RowKit
import Derived.Test.YtpjfokolbgcbhaaShelf
import Derived.Test.YtpjfokolbgcbhaaWWords
import Derived.Test.YtpjfokolbgcbhaaWLast
import Derived.Test.YtpjfokolbgcbhaaWTab
import Derived.Test.YtpjfokolbgcbhaaWFour
import Derived.Test.YtpjfokolbgcbhaaWQPut
import Derived.Test.YtpjfokolbgcbhaaWApart
import Derived.Test.YtpjfokolbgcbhaaWArr
import Derived.Test.YtpjfokolbgcbhaaWZeros
import Derived.Test.YtpjfokolbgcbhaaWFoot
import Derived.Test.YtpjfokolbgcbhaaWKept
import Derived.Test.YtpjfokolbgcbhaaWShare
import Derived.Test.YtpjfokolbgcbhaaWN
import Derived.Test.YtpjfokolbgcbhaaWFootNe
import Derived.Test.YtpjfokolbgcbhaaWAt
import Derived.Test.YtpjfokolbgcbhaaWEqStruct
import Derived.Test.YtpjfokolbgcbhaaWRepsOne
import Derived.Test.YtpjfokolbgcbhaaWInv
import Derived.Test.YtpjfokolbgcbhaaWInvWords
import Derived.Test.YtpjfokolbgcbhaaWGuard
import Derived.Test.YtpjfokolbgcbhaaWNEv
import Derived.Test.YtpjfokolbgcbhaaWMore
namespace Go.Proofs.Ytpjfokolbgcbhaa.Q
open Go.RowKit Go.Proofs.YtpjfokolbgcbhaaW.PrintWords Go.Proofs.YtpjfokolbgcbhaaW.PrintLast Go.Proofs.YtpjfokolbgcbhaaW.PrintMore
attribute [local go_sem] max2_int min2_int max_two min_two max_three min_three max_four min_four   -- for this text's walks alone
set_option linter.unusedVariables false
set_option linter.unusedSimpArgs false



def errW : Option Int → Value
  | none => .nilIface
  | some c => .iface 0 (.int .i64 c)
theorem errW_none : errW none = .nilIface := rfl
theorem errW_some (c : Int) : errW (some c) = .iface 0 (.int .i64 c) := rfl

-- the values' own types

end Go.Proofs.Ytpjfokolbgcbhaa.Q
