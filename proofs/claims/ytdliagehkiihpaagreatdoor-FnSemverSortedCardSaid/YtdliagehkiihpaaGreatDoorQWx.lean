-- Written by a working copy of the kit's print program, turned at a few places by wip/tool/mkprint.py. Lean checks it.
import Derived.Test.YtdliagehkiihpaaGreatDoorQWx0
import Derived.Test.YtdliagehkiihpaaGreatDoorQWx1
import Derived.Test.YtdliagehkiihpaaGreatDoorQWx2
import Derived.Test.YtdliagehkiihpaaGreatDoorQWx3
import Derived.Test.YtdliagehkiihpaaGreatDoorQWx4
import Derived.Test.YtdliagehkiihpaaGreatDoorQWx5
namespace Go.Proofs.YtdliagehkiihpaaGreatDoor.QW
open Go.RowKit Go.Proofs.YtdliagehkiihpaaGreatDoorW.PrintWords Go.Proofs.YtdliagehkiihpaaGreatDoorW.PrintLast Go.Proofs.YtdliagehkiihpaaGreatDoorW.PrintMore
attribute [local go_sem] max2_int min2_int max_two min_two max_three min_three max_four min_four   -- for this text's walks alone
set_option linter.unusedVariables false
set_option linter.unusedSimpArgs false

end Go.Proofs.YtdliagehkiihpaaGreatDoor.QW
