-- Written by wip/tools/myprint.py for this seat (the kit's print with changes); Lean checks it.
import Derived.Test.YtpjfokolbgcbhaaDoorQmx0
import Derived.Test.YtpjfokolbgcbhaaDoorQmx1
import Derived.Test.YtpjfokolbgcbhaaDoorQmx2
import Derived.Test.YtpjfokolbgcbhaaDoorQmx3
import Derived.Test.YtpjfokolbgcbhaaDoorQmx4
import Derived.Test.YtpjfokolbgcbhaaDoorQmx5
import Derived.Test.YtpjfokolbgcbhaaDoorQmx6
import Derived.Test.YtpjfokolbgcbhaaDoorQmx7
import Derived.Test.YtpjfokolbgcbhaaDoorQmx8
namespace Go.Proofs.YtpjfokolbgcbhaaDoor.Qm
open Go.RowKit Go.Proofs.YtpjfokolbgcbhaaDoorW.PrintWords Go.Proofs.YtpjfokolbgcbhaaDoorW.PrintLast Go.Proofs.YtpjfokolbgcbhaaDoorW.PrintMore
attribute [local go_sem] max2_int min2_int max_two min_two max_three min_three max_four min_four   -- for this text's walks alone
set_option linter.unusedVariables false
set_option linter.unusedSimpArgs false

end Go.Proofs.YtpjfokolbgcbhaaDoor.Qm
