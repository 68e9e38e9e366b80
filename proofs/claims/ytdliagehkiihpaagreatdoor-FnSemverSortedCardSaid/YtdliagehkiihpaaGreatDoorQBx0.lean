-- Written by a working copy of the kit's print program, turned at a few places by wip/tool/mkprint.py. Lean checks it.
import Derived.Test.YtdliagehkiihpaaGreatDoorProg
import Derived.Below
import Derived.Deep.Draws
import Derived.Deep.AppendLies
import Derived.Maps.AppendAt
import Derived.OwnWalk
import Derived.Laws.BytesArg
import Derived.Laws.MakeOwn
import Derived.Laws.OwnMore
import Derived.Deep.OwnRows
import Derived.Tactics
import Derived.Lib.ConvBytes
import Derived.Laws.Slices
import Derived.WalkKit
import Derived.KernelRfl
import Derived.RowKit3
import Derived.Deep.LoopGhost
import Derived.Deep.QuietTactic
import Derived.BigQuiet
import Derived.WideLaws
import Derived.Deep.DeepCutAuto
import Derived.Deep.CutBlock
import Derived.Deep.RegionHeld3
import Derived.Laws.Rows
import Derived.Lib.AppendStr
import Derived.ArgAppend
import Derived.Laws.IdiomCopy
import Derived.OrdersHeld
import Derived.Laws.BitsLemmas
import Derived.RowKit
import Derived.Test.YtdliagehkiihpaaGreatDoorZE
import Derived.Test.YtdliagehkiihpaaGreatDoorZD
import Derived.Test.YtdliagehkiihpaaGreatDoorWWords
import Derived.Test.YtdliagehkiihpaaGreatDoorWLast
import Derived.Test.YtdliagehkiihpaaGreatDoorWTab
import Derived.Test.YtdliagehkiihpaaGreatDoorWFour
import Derived.Test.YtdliagehkiihpaaGreatDoorWQPut
import Derived.Test.YtdliagehkiihpaaGreatDoorWApart
import Derived.Test.YtdliagehkiihpaaGreatDoorWArr
import Derived.Test.YtdliagehkiihpaaGreatDoorWZeros
import Derived.Test.YtdliagehkiihpaaGreatDoorWFoot
import Derived.Test.YtdliagehkiihpaaGreatDoorWKept
import Derived.Test.YtdliagehkiihpaaGreatDoorWShare
import Derived.Test.YtdliagehkiihpaaGreatDoorWN
import Derived.Test.YtdliagehkiihpaaGreatDoorWFootNe
import Derived.Test.YtdliagehkiihpaaGreatDoorWAt
import Derived.Test.YtdliagehkiihpaaGreatDoorWEqStruct
import Derived.Test.YtdliagehkiihpaaGreatDoorWRepsOne
import Derived.Test.YtdliagehkiihpaaGreatDoorWInv
import Derived.Test.YtdliagehkiihpaaGreatDoorWInvWords
import Derived.Test.YtdliagehkiihpaaGreatDoorWGuard
import Derived.Test.YtdliagehkiihpaaGreatDoorWNEv
import Derived.Test.YtdliagehkiihpaaGreatDoorWMore
namespace Go.Proofs.YtdliagehkiihpaaGreatDoor.QB
open Go.RowKit Go.Proofs.YtdliagehkiihpaaGreatDoorW.PrintWords Go.Proofs.YtdliagehkiihpaaGreatDoorW.PrintLast Go.Proofs.YtdliagehkiihpaaGreatDoorW.PrintMore
attribute [local go_sem] max2_int min2_int max_two min_two max_three min_three max_four min_four   -- for this text's walks alone
set_option linter.unusedVariables false
set_option linter.unusedSimpArgs false



def errW : Option Int → Value
  | none => .nilIface
  | some c => .iface 0 (.int .i64 c)
theorem bne_nil_ (l : List UInt8) : (l != []) = !l.isEmpty := by cases l <;> rfl
theorem errW_none : errW none = .nilIface := rfl
theorem errW_some (c : Int) : errW (some c) = .iface 0 (.int .i64 c) := rfl

theorem info9 : (Tryz.prog.info? 9).map (fun i => (i.zero, i.size, i.bytes)) = some (some (.string ⟨#[]⟩), 1, 16) := by kernel_rfl
-- the values' own types

end Go.Proofs.YtdliagehkiihpaaGreatDoor.QB
