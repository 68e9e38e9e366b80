-- Written by a working copy of the kit's print program, turned at a few places by wip/tool/mkprint.py. Lean checks it.
import Derived.Test.YtdpeadckejhloaaGreatDoorQHx0
import Derived.Test.YtdpeadckejhloaaGreatDoorQHx1
import Derived.Test.YtdpeadckejhloaaGreatDoorQHx2
import Derived.Test.YtdpeadckejhloaaGreatDoorQHx3
import Derived.Test.YtdpeadckejhloaaGreatDoorQHx4
namespace Go.Proofs.YtdpeadckejhloaaGreatDoor.QH
open Go.RowKit Go.Proofs.YtdpeadckejhloaaGreatDoorW.PrintWords Go.Proofs.YtdpeadckejhloaaGreatDoorW.PrintLast Go.Proofs.YtdpeadckejhloaaGreatDoorW.PrintMore
attribute [local go_sem] max2_int min2_int max_two min_two max_three min_three max_four min_four   -- for this text's walks alone
set_option linter.unusedVariables false
set_option linter.unusedSimpArgs false

end Go.Proofs.YtdpeadckejhloaaGreatDoor.QH
