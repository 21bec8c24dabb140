-- Written by wip/tools/myprint.py for this seat (the kit's print with changes); Lean checks it.
import Derived.Test.YtfhcpniibiobgaaDoorQfx0
import Derived.Test.YtfhcpniibiobgaaDoorQfx1
import Derived.Test.YtfhcpniibiobgaaDoorQfx2
import Derived.Test.YtfhcpniibiobgaaDoorQfx3
import Derived.Test.YtfhcpniibiobgaaDoorQfx4
import Derived.Test.YtfhcpniibiobgaaDoorQfx5
import Derived.Test.YtfhcpniibiobgaaDoorQfx6
import Derived.Test.YtfhcpniibiobgaaDoorQfx7
import Derived.Test.YtfhcpniibiobgaaDoorQfx8
import Derived.Test.YtfhcpniibiobgaaDoorQfx9
import Derived.Test.YtfhcpniibiobgaaDoorQfx10
namespace Go.Proofs.YtfhcpniibiobgaaDoor.Qf
open Go.RowKit Go.Proofs.YtfhcpniibiobgaaDoorW.PrintWords Go.Proofs.YtfhcpniibiobgaaDoorW.PrintLast Go.Proofs.YtfhcpniibiobgaaDoorW.PrintMore
attribute [local go_sem] max2_int min2_int max_two min_two max_three min_three max_four min_four
set_option linter.unusedVariables false
set_option linter.unusedSimpArgs false
end Go.Proofs.YtfhcpniibiobgaaDoor.Qf
