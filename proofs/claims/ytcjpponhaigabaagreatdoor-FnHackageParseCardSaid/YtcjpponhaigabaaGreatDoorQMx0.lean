-- Written by a working copy of the kit's print program, turned at a few places by wip/tool/mkprint.py. Lean checks it.
import Derived.Test.YtcjpponhaigabaaGreatDoorProg
import Derived.Below
import Derived.Deep.Draws
import Derived.Deep.AppendLies
import Derived.Maps.AppendAt
import Derived.OwnWalk
import Derived.Laws.BytesArg
import Derived.Laws.MakeOwn
import Derived.Laws.OwnMore
import Derived.Deep.OwnRows
import Derived.Tactics
import Derived.Lib.ConvBytes
import Derived.Laws.Slices
import Derived.WalkKit
import Derived.KernelRfl
import Derived.RowKit3
import Derived.Deep.LoopGhost
import Derived.Deep.QuietTactic
import Derived.BigQuiet
import Derived.WideLaws
import Derived.Deep.DeepCutAuto
import Derived.Deep.CutBlock
import Derived.Deep.RegionHeld3
import Derived.Laws.Rows
import Derived.Lib.AppendStr
import Derived.ArgAppend
import Derived.Laws.IdiomCopy
import Derived.OrdersHeld
import Derived.Laws.BitsLemmas
import Derived.RowKit
import Derived.Test.YtcjpponhaigabaaGreatDoorWWords
import Derived.Test.YtcjpponhaigabaaGreatDoorWLast
import Derived.Test.YtcjpponhaigabaaGreatDoorWTab
import Derived.Test.YtcjpponhaigabaaGreatDoorWFour
import Derived.Test.YtcjpponhaigabaaGreatDoorWQPut
import Derived.Test.YtcjpponhaigabaaGreatDoorWApart
import Derived.Test.YtcjpponhaigabaaGreatDoorWArr
import Derived.Test.YtcjpponhaigabaaGreatDoorWZeros
import Derived.Test.YtcjpponhaigabaaGreatDoorWFoot
import Derived.Test.YtcjpponhaigabaaGreatDoorWKept
import Derived.Test.YtcjpponhaigabaaGreatDoorWShare
import Derived.Test.YtcjpponhaigabaaGreatDoorWN
import Derived.Test.YtcjpponhaigabaaGreatDoorWFootNe
import Derived.Test.YtcjpponhaigabaaGreatDoorWAt
import Derived.Test.YtcjpponhaigabaaGreatDoorWEqStruct
import Derived.Test.YtcjpponhaigabaaGreatDoorWRepsOne
import Derived.Test.YtcjpponhaigabaaGreatDoorWInv
import Derived.Test.YtcjpponhaigabaaGreatDoorWInvWords
import Derived.Test.YtcjpponhaigabaaGreatDoorWGuard
import Derived.Test.YtcjpponhaigabaaGreatDoorWNEv
import Derived.Test.YtcjpponhaigabaaGreatDoorWMore
namespace Go.Proofs.YtcjpponhaigabaaGreatDoor.QM
open Go.RowKit Go.Proofs.YtcjpponhaigabaaGreatDoorW.PrintWords Go.Proofs.YtcjpponhaigabaaGreatDoorW.PrintLast Go.Proofs.YtcjpponhaigabaaGreatDoorW.PrintMore
attribute [local go_sem] max2_int min2_int max_two min_two max_three min_three max_four min_four   -- for this text's walks alone
set_option linter.unusedVariables false
set_option linter.unusedSimpArgs false



def errW : Option Int → Value
  | none => .nilIface
  | some c => .iface 0 (.int .i64 c)
theorem bne_nil_ (l : List UInt8) : (l != []) = !l.isEmpty := by cases l <;> rfl
theorem errW_none : errW none = .nilIface := rfl
theorem errW_some (c : Int) : errW (some c) = .iface 0 (.int .i64 c) := rfl

-- the values' own types

end Go.Proofs.YtcjpponhaigabaaGreatDoor.QM
