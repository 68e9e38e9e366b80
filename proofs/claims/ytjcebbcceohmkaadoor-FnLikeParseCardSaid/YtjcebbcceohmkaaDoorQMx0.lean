-- Written by a working copy of the kit's print program, turned at a few places by wip/tool/mkprint.py. Lean checks it.
import Derived.Test.YtjcebbcceohmkaaDoorProg
import Derived.Below
import Derived.Deep.Draws
import Derived.Deep.AppendLies
import Derived.Maps.AppendAt
import Derived.OwnWalk
import Derived.Laws.BytesArg
import Derived.Laws.MakeOwn
import Derived.Laws.OwnMore
import Derived.Deep.OwnRows
import Derived.Tactics
import Derived.Lib.ConvBytes
import Derived.Laws.Slices
import Derived.WalkKit
import Derived.KernelRfl
import Derived.RowKit3
import Derived.Deep.LoopGhost
import Derived.Deep.QuietTactic
import Derived.BigQuiet
import Derived.WideLaws
import Derived.Deep.DeepCutAuto
import Derived.Deep.CutBlock
import Derived.Deep.RegionHeld3
import Derived.Laws.Rows
import Derived.Lib.AppendStr
import Derived.ArgAppend
import Derived.Laws.IdiomCopy
import Derived.OrdersHeld
import Derived.Laws.BitsLemmas
import Derived.RowKit
import Derived.Test.YtjcebbcceohmkaaDoorWWords
import Derived.Test.YtjcebbcceohmkaaDoorWLast
import Derived.Test.YtjcebbcceohmkaaDoorWTab
import Derived.Test.YtjcebbcceohmkaaDoorWFour
import Derived.Test.YtjcebbcceohmkaaDoorWQPut
import Derived.Test.YtjcebbcceohmkaaDoorWApart
import Derived.Test.YtjcebbcceohmkaaDoorWArr
import Derived.Test.YtjcebbcceohmkaaDoorWZeros
import Derived.Test.YtjcebbcceohmkaaDoorWFoot
import Derived.Test.YtjcebbcceohmkaaDoorWKept
import Derived.Test.YtjcebbcceohmkaaDoorWShare
import Derived.Test.YtjcebbcceohmkaaDoorWN
import Derived.Test.YtjcebbcceohmkaaDoorWFootNe
import Derived.Test.YtjcebbcceohmkaaDoorWAt
import Derived.Test.YtjcebbcceohmkaaDoorWEqStruct
import Derived.Test.YtjcebbcceohmkaaDoorWRepsOne
import Derived.Test.YtjcebbcceohmkaaDoorWInv
import Derived.Test.YtjcebbcceohmkaaDoorWInvWords
import Derived.Test.YtjcebbcceohmkaaDoorWGuard
import Derived.Test.YtjcebbcceohmkaaDoorWNEv
import Derived.Test.YtjcebbcceohmkaaDoorWMore
namespace Go.Proofs.YtjcebbcceohmkaaDoor.QM
open Go.RowKit Go.Proofs.YtjcebbcceohmkaaDoorW.PrintWords Go.Proofs.YtjcebbcceohmkaaDoorW.PrintLast Go.Proofs.YtjcebbcceohmkaaDoorW.PrintMore
attribute [local go_sem] max2_int min2_int max_two min_two max_three min_three max_four min_four   -- for this text's walks alone
set_option linter.unusedVariables false
set_option linter.unusedSimpArgs false



def errW : Option Int → Value
  | none => .nilIface
  | some c => .iface 0 (.int .i64 c)
theorem bne_nil_ (l : List UInt8) : (l != []) = !l.isEmpty := by cases l <;> rfl
theorem errW_none : errW none = .nilIface := rfl
theorem errW_some (c : Int) : errW (some c) = .iface 0 (.int .i64 c) := rfl

-- the values' own types

end Go.Proofs.YtjcebbcceohmkaaDoor.QM
