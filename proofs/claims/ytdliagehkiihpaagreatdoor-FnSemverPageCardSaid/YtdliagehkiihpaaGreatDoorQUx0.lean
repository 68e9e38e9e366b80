-- Written by a working copy of the kit's print program, turned at a few places by wip/tool/mkprint.py. Lean checks it.
import Derived.Test.YtdliagehkiihpaaGreatDoorProg
import Derived.Below
import Derived.Deep.Draws
import Derived.Deep.AppendLies
import Derived.Maps.AppendAt
import Derived.OwnWalk
import Derived.Laws.BytesArg
import Derived.Laws.MakeOwn
import Derived.Laws.OwnMore
import Derived.Deep.OwnRows
import Derived.Tactics
import Derived.Lib.ConvBytes
import Derived.Laws.Slices
import Derived.WalkKit
import Derived.KernelRfl
import Derived.RowKit3
import Derived.Deep.LoopGhost
import Derived.Deep.QuietTactic
import Derived.BigQuiet
import Derived.WideLaws
import Derived.Deep.DeepCutAuto
import Derived.Deep.CutBlock
import Derived.Deep.RegionHeld3
import Derived.Laws.Rows
import Derived.Lib.AppendStr
import Derived.ArgAppend
import Derived.Laws.IdiomCopy
import Derived.OrdersHeld
import Derived.Laws.BitsLemmas
import Derived.RowKit
import Derived.Test.YtdliagehkiihpaaGreatDoorZW
import Derived.Test.YtdliagehkiihpaaGreatDoorZBL
import Derived.Test.YtdliagehkiihpaaGreatDoorZE
import Derived.Test.YtdliagehkiihpaaGreatDoorZD
import Derived.Test.YtdliagehkiihpaaGreatDoorWWords
import Derived.Test.YtdliagehkiihpaaGreatDoorWLast
import Derived.Test.YtdliagehkiihpaaGreatDoorWTab
import Derived.Test.YtdliagehkiihpaaGreatDoorWFour
import Derived.Test.YtdliagehkiihpaaGreatDoorWQPut
import Derived.Test.YtdliagehkiihpaaGreatDoorWApart
import Derived.Test.YtdliagehkiihpaaGreatDoorWArr
import Derived.Test.YtdliagehkiihpaaGreatDoorWZeros
import Derived.Test.YtdliagehkiihpaaGreatDoorWFoot
import Derived.Test.YtdliagehkiihpaaGreatDoorWKept
import Derived.Test.YtdliagehkiihpaaGreatDoorWShare
import Derived.Test.YtdliagehkiihpaaGreatDoorWN
import Derived.Test.YtdliagehkiihpaaGreatDoorWFootNe
import Derived.Test.YtdliagehkiihpaaGreatDoorWAt
import Derived.Test.YtdliagehkiihpaaGreatDoorWEqStruct
import Derived.Test.YtdliagehkiihpaaGreatDoorWRepsOne
import Derived.Test.YtdliagehkiihpaaGreatDoorWInv
import Derived.Test.YtdliagehkiihpaaGreatDoorWInvWords
import Derived.Test.YtdliagehkiihpaaGreatDoorWGuard
import Derived.Test.YtdliagehkiihpaaGreatDoorWNEv
import Derived.Test.YtdliagehkiihpaaGreatDoorWMore
namespace Go.Proofs.YtdliagehkiihpaaGreatDoor.QU
open Go.RowKit Go.Proofs.YtdliagehkiihpaaGreatDoorW.PrintWords Go.Proofs.YtdliagehkiihpaaGreatDoorW.PrintLast Go.Proofs.YtdliagehkiihpaaGreatDoorW.PrintMore
attribute [local go_sem] max2_int min2_int max_two min_two max_three min_three max_four min_four   -- for this text's walks alone
set_option linter.unusedVariables false
set_option linter.unusedSimpArgs false



def errW : Option Int → Value
  | none => .nilIface
  | some c => .iface 0 (.int .i64 c)
theorem bne_nil_ (l : List UInt8) : (l != []) = !l.isEmpty := by cases l <;> rfl
theorem errW_none : errW none = .nilIface := rfl
theorem errW_some (c : Int) : errW (some c) = .iface 0 (.int .i64 c) := rfl

theorem info9 : (Tryz.prog.info? 9).map (fun i => (i.zero, i.size, i.bytes)) = some (some (.string ⟨#[]⟩), 1, 16) := by kernel_rfl
theorem info64 : (Tryz.prog.info? 64).map (fun i => (i.zero, i.size, i.bytes)) = some (some (.agg #[(.bool false), (.string ⟨#[]⟩)]), 2, 24) := by kernel_rfl
theorem info109 : (Tryz.prog.info? 109).map (fun i => (i.zero, i.size, i.bytes)) = some (some (.agg #[(.bool false), (.string ⟨#[]⟩)]), 2, 24) := by kernel_rfl
-- the values' own types
/-! #### struct type 109 -/
structure S109 where
  f0 : Bool
  f1 : ByteArray
def z109 : S109 := ⟨false, (⟨#[]⟩ : ByteArray)⟩
def k109 : Kd S109 := Kd.iso (Kd.pair Kd.bool Kd.string) (fun x : S109 => (x.f0, x.f1))
theorem k109_open {w : World} {x : S109} {cs : List Value} (h : k109.K w x cs) : cs = [.bool x.f0, .string x.f1] := by
  obtain ⟨_, _, rfl, rfl, rfl⟩ := h
  exact rfl
theorem k109_mkM (w : World) (base : Nat) (ok : Nat → Prop) (x : S109)  : k109.M w base ok x [.bool x.f0, .string x.f1] := ⟨[.bool x.f0], [.string x.f1], rfl, rfl, rfl⟩
def rd_T109 (xs : List S109) (i : Int) : S109 := xs.getD i.toNat z109
theorem at_T109 {w : World} {A : Option Addr} {n : Nat} {xs : List S109} (h : Kd.C k109 w A n xs) (i : Int) (h0 : 0 ≤ i) (h1 : i < n) : ∃ ad , A = some ad ∧ w.cell? (ad.add (i.toNat * 2)) = some (.bool (rd_T109 xs i).f0) ∧ w.cell? ⟨(ad.add (i.toNat * 2)).block, (ad.add (i.toNat * 2)).off + 1, none⟩ = some (.string (rd_T109 xs i).f1) := by
  obtain ⟨ad, c, e, _, hK, hc0⟩ := Kd.C_get h z109 i h0 h1
  have hc : ∀ j u, c[j]? = some u → w.cell? (ad.add (i.toNat * 2 + j)) = some u := hc0
  obtain rfl := k109_open hK
  exact ⟨ad, e, hc 0 _ rfl, by rw [← add_field _ _ 1 (by omega)]; exact hc 1 _ rfl⟩

/-! #### struct type 64 -/
structure S64 where
  f0 : Bool
  f1 : ByteArray
def z64 : S64 := ⟨false, (⟨#[]⟩ : ByteArray)⟩
def k64 : Kd S64 := Kd.iso (Kd.pair Kd.bool Kd.string) (fun x : S64 => (x.f0, x.f1))
theorem k64_open {w : World} {x : S64} {cs : List Value} (h : k64.K w x cs) : cs = [.bool x.f0, .string x.f1] := by
  obtain ⟨_, _, rfl, rfl, rfl⟩ := h
  exact rfl
theorem k64_mkM (w : World) (base : Nat) (ok : Nat → Prop) (x : S64)  : k64.M w base ok x [.bool x.f0, .string x.f1] := ⟨[.bool x.f0], [.string x.f1], rfl, rfl, rfl⟩
def rd_T64 (xs : List S64) (i : Int) : S64 := xs.getD i.toNat z64
theorem at_T64 {w : World} {A : Option Addr} {n : Nat} {xs : List S64} (h : Kd.C k64 w A n xs) (i : Int) (h0 : 0 ≤ i) (h1 : i < n) : ∃ ad , A = some ad ∧ w.cell? (ad.add (i.toNat * 2)) = some (.bool (rd_T64 xs i).f0) ∧ w.cell? ⟨(ad.add (i.toNat * 2)).block, (ad.add (i.toNat * 2)).off + 1, none⟩ = some (.string (rd_T64 xs i).f1) := by
  obtain ⟨ad, c, e, _, hK, hc0⟩ := Kd.C_get h z64 i h0 h1
  have hc : ∀ j u, c[j]? = some u → w.cell? (ad.add (i.toNat * 2 + j)) = some u := hc0
  obtain rfl := k64_open hK
  exact ⟨ad, e, hc 0 _ rfl, by rw [← add_field _ _ 1 (by omega)]; exact hc 1 _ rfl⟩

end Go.Proofs.YtdliagehkiihpaaGreatDoor.QU
