-- Written by a working copy of the kit's print program, turned at a few places by wip/tool/mkprint.py. Lean checks it.
import Derived.Test.YtjcebbcceohmkaaDoorQLx0
import Derived.Test.YtjcebbcceohmkaaDoorQLx1
import Derived.Test.YtjcebbcceohmkaaDoorQLx2
import Derived.Test.YtjcebbcceohmkaaDoorQLx3
namespace Go.Proofs.YtjcebbcceohmkaaDoor.QL
open Go.RowKit Go.Proofs.YtjcebbcceohmkaaDoorW.PrintWords Go.Proofs.YtjcebbcceohmkaaDoorW.PrintLast Go.Proofs.YtjcebbcceohmkaaDoorW.PrintMore
attribute [local go_sem] max2_int min2_int max_two min_two max_three min_three max_four min_four   -- for this text's walks alone
set_option linter.unusedVariables false
set_option linter.unusedSimpArgs false

end Go.Proofs.YtjcebbcceohmkaaDoor.QL
