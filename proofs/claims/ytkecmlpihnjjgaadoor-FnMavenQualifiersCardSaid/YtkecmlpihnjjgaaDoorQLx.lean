-- Written by a working copy of the kit's print program, turned at a few places by wip/tool/mkprint.py. Lean checks it.
import Derived.Test.YtkecmlpihnjjgaaDoorQLx0
import Derived.Test.YtkecmlpihnjjgaaDoorQLx1
import Derived.Test.YtkecmlpihnjjgaaDoorQLx2
import Derived.Test.YtkecmlpihnjjgaaDoorQLx3
namespace Go.Proofs.YtkecmlpihnjjgaaDoor.QL
open Go.RowKit Go.Proofs.YtkecmlpihnjjgaaDoorW.PrintWords Go.Proofs.YtkecmlpihnjjgaaDoorW.PrintLast Go.Proofs.YtkecmlpihnjjgaaDoorW.PrintMore
attribute [local go_sem] max2_int min2_int max_two min_two max_three min_three max_four min_four   -- for this text's walks alone
set_option linter.unusedVariables false
set_option linter.unusedSimpArgs false

end Go.Proofs.YtkecmlpihnjjgaaDoor.QL
