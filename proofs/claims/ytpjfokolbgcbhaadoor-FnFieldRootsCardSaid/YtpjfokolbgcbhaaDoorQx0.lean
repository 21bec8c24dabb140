-- Written by wip/tools/myprint.py for this seat (the kit's print with changes); Lean checks it.
import Derived.Test.YtpjfokolbgcbhaaDoorProg
import Derived.Below
import Derived.Deep.Draws
import Derived.Deep.AppendLies
import Derived.Maps.AppendAt
import Derived.OwnWalk
import Derived.Laws.BytesArg
import Derived.Laws.MakeOwn
import Derived.Laws.OwnMore
import Derived.Deep.OwnRows
import Derived.Tactics
import Derived.Lib.ConvBytes
import Derived.Laws.Slices
import Derived.WalkKit
import Derived.KernelRfl
import Derived.RowKit3
import Derived.Deep.LoopGhost
import Derived.Deep.QuietTactic
import Derived.BigQuiet
import Derived.WideLaws
import Derived.Deep.DeepCutAuto
import Derived.Deep.CutBlock
import Derived.Deep.RegionHeld3
import Derived.Laws.Rows
import Derived.Lib.AppendStr
import Derived.ArgAppend
import Derived.Laws.IdiomCopy
import Derived.OrdersHeld
import Derived.Laws.BitsLemmas
import Derived.RowKit
import Derived.Test.YtpjfokolbgcbhaaDoorGlob
import Derived.Lib.Hide
import Derived.LoopTactic
import Derived.Test.YtpjfokolbgcbhaaDoorWWords
import Derived.Test.YtpjfokolbgcbhaaDoorWLast
import Derived.Test.YtpjfokolbgcbhaaDoorWTab
import Derived.Test.YtpjfokolbgcbhaaDoorWFour
import Derived.Test.YtpjfokolbgcbhaaDoorWQPut
import Derived.Test.YtpjfokolbgcbhaaDoorWApart
import Derived.Test.YtpjfokolbgcbhaaDoorWArr
import Derived.Test.YtpjfokolbgcbhaaDoorWZeros
import Derived.Test.YtpjfokolbgcbhaaDoorWFoot
import Derived.Test.YtpjfokolbgcbhaaDoorWKept
import Derived.Test.YtpjfokolbgcbhaaDoorWShare
import Derived.Test.YtpjfokolbgcbhaaDoorWN
import Derived.Test.YtpjfokolbgcbhaaDoorWFootNe
import Derived.Test.YtpjfokolbgcbhaaDoorWAt
import Derived.Test.YtpjfokolbgcbhaaDoorWEqStruct
import Derived.Test.YtpjfokolbgcbhaaDoorWRepsOne
import Derived.Test.YtpjfokolbgcbhaaDoorWInv
import Derived.Test.YtpjfokolbgcbhaaDoorWInvWords
import Derived.Test.YtpjfokolbgcbhaaDoorWGuard
import Derived.Test.YtpjfokolbgcbhaaDoorWNEv
import Derived.Test.YtpjfokolbgcbhaaDoorWMore
namespace Go.Proofs.YtpjfokolbgcbhaaDoor.Q
open Go.RowKit Go.Proofs.YtpjfokolbgcbhaaDoorW.PrintWords Go.Proofs.YtpjfokolbgcbhaaDoorW.PrintLast Go.Proofs.YtpjfokolbgcbhaaDoorW.PrintMore
attribute [local go_sem] max2_int min2_int max_two min_two max_three min_three max_four min_four   -- for this text's walks alone
set_option linter.unusedVariables false
set_option linter.unusedSimpArgs false



def errW : Option Int → Value
  | none => .nilIface
  | some c => .iface 0 (.int .i64 c)
theorem errW_none : errW none = .nilIface := rfl
theorem errW_some (c : Int) : errW (some c) = .iface 0 (.int .i64 c) := rfl

-- the values' own types

end Go.Proofs.YtpjfokolbgcbhaaDoor.Q
