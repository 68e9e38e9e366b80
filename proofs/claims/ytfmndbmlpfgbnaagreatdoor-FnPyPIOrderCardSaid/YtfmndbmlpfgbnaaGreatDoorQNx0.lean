-- Written by a working copy of the kit's print program, turned at a few places by wip/tool/mkprint.py. Lean checks it.
import Derived.Test.YtfmndbmlpfgbnaaGreatDoorProg
import Derived.Below
import Derived.Deep.Draws
import Derived.Deep.AppendLies
import Derived.Maps.AppendAt
import Derived.OwnWalk
import Derived.Laws.BytesArg
import Derived.Laws.MakeOwn
import Derived.Laws.OwnMore
import Derived.Deep.OwnRows
import Derived.Tactics
import Derived.Lib.ConvBytes
import Derived.Laws.Slices
import Derived.WalkKit
import Derived.KernelRfl
import Derived.RowKit3
import Derived.Deep.LoopGhost
import Derived.Deep.QuietTactic
import Derived.BigQuiet
import Derived.WideLaws
import Derived.Deep.DeepCutAuto
import Derived.Deep.CutBlock
import Derived.Deep.RegionHeld3
import Derived.Laws.Rows
import Derived.Lib.AppendStr
import Derived.ArgAppend
import Derived.Laws.IdiomCopy
import Derived.OrdersHeld
import Derived.Laws.BitsLemmas
import Derived.RowKit
import Derived.Test.YtfmndbmlpfgbnaaGreatDoorZE
import Derived.Test.YtfmndbmlpfgbnaaGreatDoorZD
import Derived.Test.YtfmndbmlpfgbnaaGreatDoorWWords
import Derived.Test.YtfmndbmlpfgbnaaGreatDoorWLast
import Derived.Test.YtfmndbmlpfgbnaaGreatDoorWTab
import Derived.Test.YtfmndbmlpfgbnaaGreatDoorWFour
import Derived.Test.YtfmndbmlpfgbnaaGreatDoorWQPut
import Derived.Test.YtfmndbmlpfgbnaaGreatDoorWApart
import Derived.Test.YtfmndbmlpfgbnaaGreatDoorWArr
import Derived.Test.YtfmndbmlpfgbnaaGreatDoorWZeros
import Derived.Test.YtfmndbmlpfgbnaaGreatDoorWFoot
import Derived.Test.YtfmndbmlpfgbnaaGreatDoorWKept
import Derived.Test.YtfmndbmlpfgbnaaGreatDoorWShare
import Derived.Test.YtfmndbmlpfgbnaaGreatDoorWN
import Derived.Test.YtfmndbmlpfgbnaaGreatDoorWFootNe
import Derived.Test.YtfmndbmlpfgbnaaGreatDoorWAt
import Derived.Test.YtfmndbmlpfgbnaaGreatDoorWEqStruct
import Derived.Test.YtfmndbmlpfgbnaaGreatDoorWRepsOne
import Derived.Test.YtfmndbmlpfgbnaaGreatDoorWInv
import Derived.Test.YtfmndbmlpfgbnaaGreatDoorWInvWords
import Derived.Test.YtfmndbmlpfgbnaaGreatDoorWGuard
import Derived.Test.YtfmndbmlpfgbnaaGreatDoorWNEv
import Derived.Test.YtfmndbmlpfgbnaaGreatDoorWMore
namespace Go.Proofs.YtfmndbmlpfgbnaaGreatDoor.QN
open Go.RowKit Go.Proofs.YtfmndbmlpfgbnaaGreatDoorW.PrintWords Go.Proofs.YtfmndbmlpfgbnaaGreatDoorW.PrintLast Go.Proofs.YtfmndbmlpfgbnaaGreatDoorW.PrintMore
attribute [local go_sem] max2_int min2_int max_two min_two max_three min_three max_four min_four   -- for this text's walks alone
set_option linter.unusedVariables false
set_option linter.unusedSimpArgs false



def errW : Option Int → Value
  | none => .nilIface
  | some c => .iface 0 (.int .i64 c)
theorem bne_nil_ (l : List UInt8) : (l != []) = !l.isEmpty := by cases l <;> rfl
theorem errW_none : errW none = .nilIface := rfl
theorem errW_some (c : Int) : errW (some c) = .iface 0 (.int .i64 c) := rfl

theorem info56 : (Tryz.prog.info? 56).map (fun i => (i.zero, i.size, i.bytes)) = some (some (.agg #[(.bool false), (.string ⟨#[]⟩)]), 2, 24) := by kernel_rfl
-- the values' own types
/-! #### struct type 23 -/
structure S23 where
  f0 : Bool
  f1 : ByteArray
def z23 : S23 := ⟨false, (⟨#[]⟩ : ByteArray)⟩
def k23 : Kd S23 := Kd.iso (Kd.pair Kd.bool Kd.string) (fun x : S23 => (x.f0, x.f1))
theorem k23_open {w : World} {x : S23} {cs : List Value} (h : k23.K w x cs) : cs = [.bool x.f0, .string x.f1] := by
  obtain ⟨_, _, rfl, rfl, rfl⟩ := h
  exact rfl
theorem k23_mk (w : World) (x : S23)  : k23.K w x [.bool x.f0, .string x.f1] := ⟨[.bool x.f0], [.string x.f1], rfl, rfl, rfl⟩
def rd_T23 (xs : List S23) (i : Int) : S23 := xs.getD i.toNat z23
theorem at_T23 {w : World} {A : Option Addr} {n : Nat} {xs : List S23} (h : Kd.C k23 w A n xs) (i : Int) (h0 : 0 ≤ i) (h1 : i < n) : ∃ ad , A = some ad ∧ w.cell? (ad.add (i.toNat * 2)) = some (.bool (rd_T23 xs i).f0) ∧ w.cell? ⟨(ad.add (i.toNat * 2)).block, (ad.add (i.toNat * 2)).off + 1, none⟩ = some (.string (rd_T23 xs i).f1) := by
  obtain ⟨ad, c, e, _, hK, hc0⟩ := Kd.C_get h z23 i h0 h1
  have hc : ∀ j u, c[j]? = some u → w.cell? (ad.add (i.toNat * 2 + j)) = some u := hc0
  obtain rfl := k23_open hK
  exact ⟨ad, e, hc 0 _ rfl, by rw [← add_field _ _ 1 (by omega)]; exact hc 1 _ rfl⟩

/-! #### struct type 56 -/
structure S56 where
  f0 : Bool
  f1 : ByteArray
def z56 : S56 := ⟨false, (⟨#[]⟩ : ByteArray)⟩
def k56 : Kd S56 := Kd.iso (Kd.pair Kd.bool Kd.string) (fun x : S56 => (x.f0, x.f1))
theorem k56_open {w : World} {x : S56} {cs : List Value} (h : k56.K w x cs) : cs = [.bool x.f0, .string x.f1] := by
  obtain ⟨_, _, rfl, rfl, rfl⟩ := h
  exact rfl
theorem k56_mkM (w : World) (base : Nat) (ok : Nat → Prop) (x : S56)  : k56.M w base ok x [.bool x.f0, .string x.f1] := ⟨[.bool x.f0], [.string x.f1], rfl, rfl, rfl⟩
def rd_T56 (xs : List S56) (i : Int) : S56 := xs.getD i.toNat z56
theorem at_T56 {w : World} {A : Option Addr} {n : Nat} {xs : List S56} (h : Kd.C k56 w A n xs) (i : Int) (h0 : 0 ≤ i) (h1 : i < n) : ∃ ad , A = some ad ∧ w.cell? (ad.add (i.toNat * 2)) = some (.bool (rd_T56 xs i).f0) ∧ w.cell? ⟨(ad.add (i.toNat * 2)).block, (ad.add (i.toNat * 2)).off + 1, none⟩ = some (.string (rd_T56 xs i).f1) := by
  obtain ⟨ad, c, e, _, hK, hc0⟩ := Kd.C_get h z56 i h0 h1
  have hc : ∀ j u, c[j]? = some u → w.cell? (ad.add (i.toNat * 2 + j)) = some u := hc0
  obtain rfl := k56_open hK
  exact ⟨ad, e, hc 0 _ rfl, by rw [← add_field _ _ 1 (by omega)]; exact hc 1 _ rfl⟩

end Go.Proofs.YtfmndbmlpfgbnaaGreatDoor.QN
