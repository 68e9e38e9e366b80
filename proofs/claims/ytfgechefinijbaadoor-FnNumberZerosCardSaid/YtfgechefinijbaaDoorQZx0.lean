-- Written by a working copy of the kit's print program, turned at a few places by wip/tool/mkprint.py. Lean checks it.
import Derived.Test.YtfgechefinijbaaDoorProg
import Derived.Below
import Derived.Deep.Draws
import Derived.Deep.AppendLies
import Derived.Maps.AppendAt
import Derived.OwnWalk
import Derived.Laws.BytesArg
import Derived.Laws.MakeOwn
import Derived.Laws.OwnMore
import Derived.Deep.OwnRows
import Derived.Tactics
import Derived.Lib.ConvBytes
import Derived.Laws.Slices
import Derived.WalkKit
import Derived.KernelRfl
import Derived.RowKit3
import Derived.Deep.LoopGhost
import Derived.Deep.QuietTactic
import Derived.BigQuiet
import Derived.WideLaws
import Derived.Deep.DeepCutAuto
import Derived.Deep.CutBlock
import Derived.Deep.RegionHeld3
import Derived.Laws.Rows
import Derived.Lib.AppendStr
import Derived.ArgAppend
import Derived.Laws.IdiomCopy
import Derived.OrdersHeld
import Derived.Laws.BitsLemmas
import Derived.RowKit
import Derived.Test.YtfgechefinijbaaDoorZE
import Derived.Test.YtfgechefinijbaaDoorZD
import Derived.Test.YtfgechefinijbaaDoorMGivNu
import Derived.Test.YtfgechefinijbaaDoorWWords
import Derived.Test.YtfgechefinijbaaDoorWLast
import Derived.Test.YtfgechefinijbaaDoorWTab
import Derived.Test.YtfgechefinijbaaDoorWFour
import Derived.Test.YtfgechefinijbaaDoorWQPut
import Derived.Test.YtfgechefinijbaaDoorWApart
import Derived.Test.YtfgechefinijbaaDoorWArr
import Derived.Test.YtfgechefinijbaaDoorWZeros
import Derived.Test.YtfgechefinijbaaDoorWFoot
import Derived.Test.YtfgechefinijbaaDoorWKept
import Derived.Test.YtfgechefinijbaaDoorWShare
import Derived.Test.YtfgechefinijbaaDoorWN
import Derived.Test.YtfgechefinijbaaDoorWFootNe
import Derived.Test.YtfgechefinijbaaDoorWAt
import Derived.Test.YtfgechefinijbaaDoorWEqStruct
import Derived.Test.YtfgechefinijbaaDoorWRepsOne
import Derived.Test.YtfgechefinijbaaDoorWInv
import Derived.Test.YtfgechefinijbaaDoorWInvWords
import Derived.Test.YtfgechefinijbaaDoorWGuard
import Derived.Test.YtfgechefinijbaaDoorWNEv
import Derived.Test.YtfgechefinijbaaDoorWMore
namespace Go.Proofs.YtfgechefinijbaaDoor.QZ
open Go.RowKit Go.Proofs.YtfgechefinijbaaDoorW.PrintWords Go.Proofs.YtfgechefinijbaaDoorW.PrintLast Go.Proofs.YtfgechefinijbaaDoorW.PrintMore
attribute [local go_sem] max2_int min2_int max_two min_two max_three min_three max_four min_four   -- for this text's walks alone
set_option linter.unusedVariables false
set_option linter.unusedSimpArgs false



def errW : Option Int → Value
  | none => .nilIface
  | some c => .iface 0 (.int .i64 c)
theorem bne_nil_ (l : List UInt8) : (l != []) = !l.isEmpty := by cases l <;> rfl
theorem errW_none : errW none = .nilIface := rfl
theorem errW_some (c : Int) : errW (some c) = .iface 0 (.int .i64 c) := rfl

theorem info9 : (Tryd.prog.info? 9).map (fun i => (i.zero, i.size, i.bytes)) = some (some (.string ⟨#[]⟩), 1, 16) := by kernel_rfl
-- the values' own types

end Go.Proofs.YtfgechefinijbaaDoor.QZ
