-- Written by a working copy of the kit's print program, turned at a few places by wip/tool/mkprint.py. Lean checks it.
import Derived.Test.YtchbfjjeodnocaaDoorProg
import Derived.Below
import Derived.Deep.Draws
import Derived.Deep.AppendLies
import Derived.Maps.AppendAt
import Derived.OwnWalk
import Derived.Laws.BytesArg
import Derived.Laws.MakeOwn
import Derived.Laws.OwnMore
import Derived.Deep.OwnRows
import Derived.Tactics
import Derived.Lib.ConvBytes
import Derived.Laws.Slices
import Derived.WalkKit
import Derived.KernelRfl
import Derived.RowKit3
import Derived.Deep.LoopGhost
import Derived.Deep.QuietTactic
import Derived.BigQuiet
import Derived.WideLaws
import Derived.Deep.DeepCutAuto
import Derived.Deep.CutBlock
import Derived.Deep.RegionHeld3
import Derived.Laws.Rows
import Derived.Lib.AppendStr
import Derived.ArgAppend
import Derived.Laws.IdiomCopy
import Derived.OrdersHeld
import Derived.Laws.BitsLemmas
import Derived.RowKit
import Derived.Test.YtchbfjjeodnocaaDoorZE
import Derived.Test.YtchbfjjeodnocaaDoorWWords
import Derived.Test.YtchbfjjeodnocaaDoorWLast
import Derived.Test.YtchbfjjeodnocaaDoorWTab
import Derived.Test.YtchbfjjeodnocaaDoorWFour
import Derived.Test.YtchbfjjeodnocaaDoorWQPut
import Derived.Test.YtchbfjjeodnocaaDoorWApart
import Derived.Test.YtchbfjjeodnocaaDoorWArr
import Derived.Test.YtchbfjjeodnocaaDoorWZeros
import Derived.Test.YtchbfjjeodnocaaDoorWFoot
import Derived.Test.YtchbfjjeodnocaaDoorWKept
import Derived.Test.YtchbfjjeodnocaaDoorWShare
import Derived.Test.YtchbfjjeodnocaaDoorWN
import Derived.Test.YtchbfjjeodnocaaDoorWFootNe
import Derived.Test.YtchbfjjeodnocaaDoorWAt
import Derived.Test.YtchbfjjeodnocaaDoorWEqStruct
import Derived.Test.YtchbfjjeodnocaaDoorWRepsOne
import Derived.Test.YtchbfjjeodnocaaDoorWInv
import Derived.Test.YtchbfjjeodnocaaDoorWInvWords
import Derived.Test.YtchbfjjeodnocaaDoorWGuard
import Derived.Test.YtchbfjjeodnocaaDoorWNEv
import Derived.Test.YtchbfjjeodnocaaDoorWMore
namespace Go.Proofs.YtchbfjjeodnocaaDoor.QO
open Go.RowKit Go.Proofs.YtchbfjjeodnocaaDoorW.PrintWords Go.Proofs.YtchbfjjeodnocaaDoorW.PrintLast Go.Proofs.YtchbfjjeodnocaaDoorW.PrintMore
attribute [local go_sem] max2_int min2_int max_two min_two max_three min_three max_four min_four   -- for this text's walks alone
set_option linter.unusedVariables false
set_option linter.unusedSimpArgs false



def errW : Option Int → Value
  | none => .nilIface
  | some c => .iface 0 (.int .i64 c)
theorem bne_nil_ (l : List UInt8) : (l != []) = !l.isEmpty := by cases l <;> rfl
theorem errW_none : errW none = .nilIface := rfl
theorem errW_some (c : Int) : errW (some c) = .iface 0 (.int .i64 c) := rfl

-- the values' own types
/-! #### struct type 43 -/
structure S43 where
  f0 : Bool
  f1 : ByteArray
def z43 : S43 := ⟨false, (⟨#[]⟩ : ByteArray)⟩
def k43 : Kd S43 := Kd.iso (Kd.pair Kd.bool Kd.string) (fun x : S43 => (x.f0, x.f1))
theorem k43_open {w : World} {x : S43} {cs : List Value} (h : k43.K w x cs) : cs = [.bool x.f0, .string x.f1] := by
  obtain ⟨_, _, rfl, rfl, rfl⟩ := h
  exact rfl
theorem k43_openM {w : World} {base : Nat} {ok : Nat → Prop} {x : S43} {cs : List Value} (h : k43.M w base ok x cs) : cs = [.bool x.f0, .string x.f1] := by
  obtain ⟨_, _, rfl, rfl, rfl⟩ := h
  exact rfl
theorem k43_mk (w : World) (x : S43)  : k43.K w x [.bool x.f0, .string x.f1] := ⟨[.bool x.f0], [.string x.f1], rfl, rfl, rfl⟩
theorem k43_mkM (w : World) (base : Nat) (ok : Nat → Prop) (x : S43)  : k43.M w base ok x [.bool x.f0, .string x.f1] := ⟨[.bool x.f0], [.string x.f1], rfl, rfl, rfl⟩
def rd_T43 (xs : List S43) (i : Int) : S43 := xs.getD i.toNat z43
theorem at_T43 {w : World} {A : Option Addr} {n : Nat} {xs : List S43} (h : Kd.C k43 w A n xs) (i : Int) (h0 : 0 ≤ i) (h1 : i < n) : ∃ ad , A = some ad ∧ w.cell? (ad.add (i.toNat * 2)) = some (.bool (rd_T43 xs i).f0) ∧ w.cell? ⟨(ad.add (i.toNat * 2)).block, (ad.add (i.toNat * 2)).off + 1, none⟩ = some (.string (rd_T43 xs i).f1) := by
  obtain ⟨ad, c, e, _, hK, hc0⟩ := Kd.C_get h z43 i h0 h1
  have hc : ∀ j u, c[j]? = some u → w.cell? (ad.add (i.toNat * 2 + j)) = some u := hc0
  obtain rfl := k43_open hK
  exact ⟨ad, e, hc 0 _ rfl, by rw [← add_field _ _ 1 (by omega)]; exact hc 1 _ rfl⟩

end Go.Proofs.YtchbfjjeodnocaaDoor.QO
