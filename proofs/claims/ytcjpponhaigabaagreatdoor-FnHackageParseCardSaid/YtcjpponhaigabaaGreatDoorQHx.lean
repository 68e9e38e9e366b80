-- Written by a working copy of the kit's print program, turned at a few places by wip/tool/mkprint.py. Lean checks it.
import Derived.Test.YtcjpponhaigabaaGreatDoorQHx0
import Derived.Test.YtcjpponhaigabaaGreatDoorQHx1
import Derived.Test.YtcjpponhaigabaaGreatDoorQHx2
import Derived.Test.YtcjpponhaigabaaGreatDoorQHx3
namespace Go.Proofs.YtcjpponhaigabaaGreatDoor.QH
open Go.RowKit Go.Proofs.YtcjpponhaigabaaGreatDoorW.PrintWords Go.Proofs.YtcjpponhaigabaaGreatDoorW.PrintLast Go.Proofs.YtcjpponhaigabaaGreatDoorW.PrintMore
attribute [local go_sem] max2_int min2_int max_two min_two max_three min_three max_four min_four   -- for this text's walks alone
set_option linter.unusedVariables false
set_option linter.unusedSimpArgs false

end Go.Proofs.YtcjpponhaigabaaGreatDoor.QH
