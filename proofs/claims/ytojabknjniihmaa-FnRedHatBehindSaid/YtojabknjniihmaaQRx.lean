-- Written by a working copy of the kit's print program, turned at a few places by wip/tool/mkprint.py. Lean checks it.
import Derived.Test.YtojabknjniihmaaQRx0
import Derived.Test.YtojabknjniihmaaQRx1
import Derived.Test.YtojabknjniihmaaQRx2
import Derived.Test.YtojabknjniihmaaQRx3
import Derived.Test.YtojabknjniihmaaQRx4
import Derived.Test.YtojabknjniihmaaQRx5
import Derived.Test.YtojabknjniihmaaQRx6
import Derived.Test.YtojabknjniihmaaQRx7
import Derived.Test.YtojabknjniihmaaQRx8
namespace Go.Proofs.Ytojabknjniihmaa.QR
open Go.RowKit Go.Proofs.YtojabknjniihmaaW.PrintWords Go.Proofs.YtojabknjniihmaaW.PrintLast Go.Proofs.YtojabknjniihmaaW.PrintMore
attribute [local go_sem] max2_int min2_int max_two min_two max_three min_three max_four min_four   -- for this text's walks alone
set_option linter.unusedVariables false
set_option linter.unusedSimpArgs false

end Go.Proofs.Ytojabknjniihmaa.QR
