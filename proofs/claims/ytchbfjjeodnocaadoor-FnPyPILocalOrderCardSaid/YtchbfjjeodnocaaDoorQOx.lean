-- Written by a working copy of the kit's print program, turned at a few places by wip/tool/mkprint.py. Lean checks it.
import Derived.Test.YtchbfjjeodnocaaDoorQOx0
import Derived.Test.YtchbfjjeodnocaaDoorQOx1
import Derived.Test.YtchbfjjeodnocaaDoorQOx2
import Derived.Test.YtchbfjjeodnocaaDoorQOx3
import Derived.Test.YtchbfjjeodnocaaDoorQOx4
namespace Go.Proofs.YtchbfjjeodnocaaDoor.QO
open Go.RowKit Go.Proofs.YtchbfjjeodnocaaDoorW.PrintWords Go.Proofs.YtchbfjjeodnocaaDoorW.PrintLast Go.Proofs.YtchbfjjeodnocaaDoorW.PrintMore
attribute [local go_sem] max2_int min2_int max_two min_two max_three min_three max_four min_four   -- for this text's walks alone
set_option linter.unusedVariables false
set_option linter.unusedSimpArgs false

end Go.Proofs.YtchbfjjeodnocaaDoor.QO
