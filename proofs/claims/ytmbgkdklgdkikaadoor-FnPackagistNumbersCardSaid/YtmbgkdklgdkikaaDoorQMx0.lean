-- Written by a working copy of the kit's print program, turned at a few places by wip/tool/mkprint.py. Lean checks it.
import Derived.Test.YtmbgkdklgdkikaaDoorProg
import Derived.Below
import Derived.Deep.Draws
import Derived.Deep.AppendLies
import Derived.Maps.AppendAt
import Derived.OwnWalk
import Derived.Laws.BytesArg
import Derived.Laws.MakeOwn
import Derived.Laws.OwnMore
import Derived.Deep.OwnRows
import Derived.Tactics
import Derived.Lib.ConvBytes
import Derived.Laws.Slices
import Derived.WalkKit
import Derived.KernelRfl
import Derived.RowKit3
import Derived.Deep.LoopGhost
import Derived.Deep.QuietTactic
import Derived.BigQuiet
import Derived.WideLaws
import Derived.Deep.DeepCutAuto
import Derived.Deep.CutBlock
import Derived.Deep.RegionHeld3
import Derived.Laws.Rows
import Derived.Lib.AppendStr
import Derived.ArgAppend
import Derived.Laws.IdiomCopy
import Derived.OrdersHeld
import Derived.Laws.BitsLemmas
import Derived.RowKit
import Derived.Test.YtmbgkdklgdkikaaDoorWWords
import Derived.Test.YtmbgkdklgdkikaaDoorWLast
import Derived.Test.YtmbgkdklgdkikaaDoorWTab
import Derived.Test.YtmbgkdklgdkikaaDoorWFour
import Derived.Test.YtmbgkdklgdkikaaDoorWQPut
import Derived.Test.YtmbgkdklgdkikaaDoorWApart
import Derived.Test.YtmbgkdklgdkikaaDoorWArr
import Derived.Test.YtmbgkdklgdkikaaDoorWZeros
import Derived.Test.YtmbgkdklgdkikaaDoorWFoot
import Derived.Test.YtmbgkdklgdkikaaDoorWKept
import Derived.Test.YtmbgkdklgdkikaaDoorWShare
import Derived.Test.YtmbgkdklgdkikaaDoorWN
import Derived.Test.YtmbgkdklgdkikaaDoorWFootNe
import Derived.Test.YtmbgkdklgdkikaaDoorWAt
import Derived.Test.YtmbgkdklgdkikaaDoorWEqStruct
import Derived.Test.YtmbgkdklgdkikaaDoorWRepsOne
import Derived.Test.YtmbgkdklgdkikaaDoorWInv
import Derived.Test.YtmbgkdklgdkikaaDoorWInvWords
import Derived.Test.YtmbgkdklgdkikaaDoorWGuard
import Derived.Test.YtmbgkdklgdkikaaDoorWNEv
import Derived.Test.YtmbgkdklgdkikaaDoorWMore
namespace Go.Proofs.YtmbgkdklgdkikaaDoor.QM
open Go.RowKit Go.Proofs.YtmbgkdklgdkikaaDoorW.PrintWords Go.Proofs.YtmbgkdklgdkikaaDoorW.PrintLast Go.Proofs.YtmbgkdklgdkikaaDoorW.PrintMore
attribute [local go_sem] max2_int min2_int max_two min_two max_three min_three max_four min_four   -- for this text's walks alone
set_option linter.unusedVariables false
set_option linter.unusedSimpArgs false



def errW : Option Int → Value
  | none => .nilIface
  | some c => .iface 0 (.int .i64 c)
theorem bne_nil_ (l : List UInt8) : (l != []) = !l.isEmpty := by cases l <;> rfl
theorem errW_none : errW none = .nilIface := rfl
theorem errW_some (c : Int) : errW (some c) = .iface 0 (.int .i64 c) := rfl

-- the values' own types

end Go.Proofs.YtmbgkdklgdkikaaDoor.QM
