/- Printed by the kit's print.py, called for several laws at once: functions as plain Lean, and the walks' contracts. -/
import Derived.Test.YtiifnofghicnaaaDoorQAllx0
import Derived.Test.YtiifnofghicnaaaDoorQAllx1
import Derived.Test.YtiifnofghicnaaaDoorQAllx2
import Derived.Test.YtiifnofghicnaaaDoorQAllx3
import Derived.Test.YtiifnofghicnaaaDoorQAllx4
import Derived.Test.YtiifnofghicnaaaDoorQAllx5
import Derived.Test.YtiifnofghicnaaaDoorQAllx6
import Derived.Test.YtiifnofghicnaaaDoorQAllx7
namespace Go.Proofs.YtiifnofghicnaaaDoor.PAll
open Go.RowKit Go.Proofs.YtiifnofghicnaaaDoorW.PrintWords Go.Proofs.YtiifnofghicnaaaDoorW.PrintLast Go.Proofs.YtiifnofghicnaaaDoorW.PrintMore
attribute [local go_sem] max2_int min2_int max_two min_two max_three min_three max_four min_four   -- for this text's walks alone
set_option linter.unusedVariables false
set_option linter.unusedSimpArgs false
end Go.Proofs.YtiifnofghicnaaaDoor.PAll
