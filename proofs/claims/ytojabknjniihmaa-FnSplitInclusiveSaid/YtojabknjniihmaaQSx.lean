-- Written by a working copy of the kit's print program, turned at a few places by wip/tool/mkprint.py. Lean checks it.
import Derived.Test.YtojabknjniihmaaQSx0
import Derived.Test.YtojabknjniihmaaQSx1
import Derived.Test.YtojabknjniihmaaQSx2
import Derived.Test.YtojabknjniihmaaQSx3
import Derived.Test.YtojabknjniihmaaQSx4
import Derived.Test.YtojabknjniihmaaQSx5
namespace Go.Proofs.Ytojabknjniihmaa.QS
open Go.RowKit Go.Proofs.YtojabknjniihmaaW.PrintWords Go.Proofs.YtojabknjniihmaaW.PrintLast Go.Proofs.YtojabknjniihmaaW.PrintMore
attribute [local go_sem] max2_int min2_int max_two min_two max_three min_three max_four min_four   -- for this text's walks alone
set_option linter.unusedVariables false
set_option linter.unusedSimpArgs false

end Go.Proofs.Ytojabknjniihmaa.QS
