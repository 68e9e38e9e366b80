-- Written by a working copy of the kit's print program, turned at a few places by wip/tool/mkprint.py. Lean checks it.
import Derived.Test.YtdliagehkiihpaaGreatDoorProg
import Derived.Below
import Derived.Deep.Draws
import Derived.Deep.AppendLies
import Derived.Maps.AppendAt
import Derived.OwnWalk
import Derived.Laws.BytesArg
import Derived.Laws.MakeOwn
import Derived.Laws.OwnMore
import Derived.Deep.OwnRows
import Derived.Tactics
import Derived.Lib.ConvBytes
import Derived.Laws.Slices
import Derived.WalkKit
import Derived.KernelRfl
import Derived.RowKit3
import Derived.Deep.LoopGhost
import Derived.Deep.QuietTactic
import Derived.BigQuiet
import Derived.WideLaws
import Derived.Deep.DeepCutAuto
import Derived.Deep.CutBlock
import Derived.Deep.RegionHeld3
import Derived.Laws.Rows
import Derived.Lib.AppendStr
import Derived.ArgAppend
import Derived.Laws.IdiomCopy
import Derived.OrdersHeld
import Derived.Laws.BitsLemmas
import Derived.RowKit
import Derived.Test.YtdliagehkiihpaaGreatDoorZT
import Derived.Test.YtdliagehkiihpaaGreatDoorZW
import Derived.Test.YtdliagehkiihpaaGreatDoorZE
import Derived.Test.YtdliagehkiihpaaGreatDoorZD
import Derived.Test.YtdliagehkiihpaaGreatDoorWWords
import Derived.Test.YtdliagehkiihpaaGreatDoorWLast
import Derived.Test.YtdliagehkiihpaaGreatDoorWTab
import Derived.Test.YtdliagehkiihpaaGreatDoorWFour
import Derived.Test.YtdliagehkiihpaaGreatDoorWQPut
import Derived.Test.YtdliagehkiihpaaGreatDoorWApart
import Derived.Test.YtdliagehkiihpaaGreatDoorWArr
import Derived.Test.YtdliagehkiihpaaGreatDoorWZeros
import Derived.Test.YtdliagehkiihpaaGreatDoorWFoot
import Derived.Test.YtdliagehkiihpaaGreatDoorWKept
import Derived.Test.YtdliagehkiihpaaGreatDoorWShare
import Derived.Test.YtdliagehkiihpaaGreatDoorWN
import Derived.Test.YtdliagehkiihpaaGreatDoorWFootNe
import Derived.Test.YtdliagehkiihpaaGreatDoorWAt
import Derived.Test.YtdliagehkiihpaaGreatDoorWEqStruct
import Derived.Test.YtdliagehkiihpaaGreatDoorWRepsOne
import Derived.Test.YtdliagehkiihpaaGreatDoorWInv
import Derived.Test.YtdliagehkiihpaaGreatDoorWInvWords
import Derived.Test.YtdliagehkiihpaaGreatDoorWGuard
import Derived.Test.YtdliagehkiihpaaGreatDoorWNEv
import Derived.Test.YtdliagehkiihpaaGreatDoorWMore
namespace Go.Proofs.YtdliagehkiihpaaGreatDoor.QW
open Go.RowKit Go.Proofs.YtdliagehkiihpaaGreatDoorW.PrintWords Go.Proofs.YtdliagehkiihpaaGreatDoorW.PrintLast Go.Proofs.YtdliagehkiihpaaGreatDoorW.PrintMore
attribute [local go_sem] max2_int min2_int max_two min_two max_three min_three max_four min_four   -- for this text's walks alone
set_option linter.unusedVariables false
set_option linter.unusedSimpArgs false



def errW : Option Int → Value
  | none => .nilIface
  | some c => .iface 0 (.int .i64 c)
theorem bne_nil_ (l : List UInt8) : (l != []) = !l.isEmpty := by cases l <;> rfl
theorem errW_none : errW none = .nilIface := rfl
theorem errW_some (c : Int) : errW (some c) = .iface 0 (.int .i64 c) := rfl

theorem info5 : (Tryz.prog.info? 5).map (fun i => (i.zero, i.size, i.bytes)) = some (some (.int .u8 0), 1, 1) := by kernel_rfl
theorem info9 : (Tryz.prog.info? 9).map (fun i => (i.zero, i.size, i.bytes)) = some (some (.string ⟨#[]⟩), 1, 16) := by kernel_rfl
theorem info64 : (Tryz.prog.info? 64).map (fun i => (i.zero, i.size, i.bytes)) = some (some (.agg #[(.bool false), (.string ⟨#[]⟩)]), 2, 24) := by kernel_rfl
-- the values' own types
/-! #### struct type 64 -/
structure S64 where
  f0 : Bool
  f1 : ByteArray
def z64 : S64 := ⟨false, (⟨#[]⟩ : ByteArray)⟩
def k64 : Kd S64 := Kd.iso (Kd.pair Kd.bool Kd.string) (fun x : S64 => (x.f0, x.f1))
theorem k64_open {w : World} {x : S64} {cs : List Value} (h : k64.K w x cs) : cs = [.bool x.f0, .string x.f1] := by
  obtain ⟨_, _, rfl, rfl, rfl⟩ := h
  exact rfl
theorem k64_mkM (w : World) (base : Nat) (ok : Nat → Prop) (x : S64)  : k64.M w base ok x [.bool x.f0, .string x.f1] := ⟨[.bool x.f0], [.string x.f1], rfl, rfl, rfl⟩
def rd_T64 (xs : List S64) (i : Int) : S64 := xs.getD i.toNat z64
theorem at_T64 {w : World} {A : Option Addr} {n : Nat} {xs : List S64} (h : Kd.C k64 w A n xs) (i : Int) (h0 : 0 ≤ i) (h1 : i < n) : ∃ ad , A = some ad ∧ w.cell? (ad.add (i.toNat * 2)) = some (.bool (rd_T64 xs i).f0) ∧ w.cell? ⟨(ad.add (i.toNat * 2)).block, (ad.add (i.toNat * 2)).off + 1, none⟩ = some (.string (rd_T64 xs i).f1) := by
  obtain ⟨ad, c, e, _, hK, hc0⟩ := Kd.C_get h z64 i h0 h1
  have hc : ∀ j u, c[j]? = some u → w.cell? (ad.add (i.toNat * 2 + j)) = some u := hc0
  obtain rfl := k64_open hK
  exact ⟨ad, e, hc 0 _ rfl, by rw [← add_field _ _ 1 (by omega)]; exact hc 1 _ rfl⟩

/-! #### struct type 37 -/
structure S37 where
  f0 : Bool
  f1 : (List S64)
  f2 : ByteArray
  f3 : ByteArray
def z37 : S37 := ⟨false, ([] : List S64), (⟨#[]⟩ : ByteArray), (⟨#[]⟩ : ByteArray)⟩
def k37 : Kd S37 := Kd.iso (Kd.pair Kd.bool (Kd.pair (Kd.slice 64 k64) (Kd.pair Kd.string Kd.string))) (fun x : S37 => (x.f0, x.f1, x.f2, x.f3))
theorem k37_open {w : World} {x : S37} {cs : List Value} (h : k37.K w x cs) : ∃ A1 c1, cs = [.bool x.f0, .slice A1 x.f1.length c1, .string x.f2, .string x.f3] ∧ x.f1.length ≤ c1 ∧ k64.C w A1 x.f1.length x.f1 := by
  obtain ⟨_, _, rfl, rfl, ⟨_, _, rfl, ⟨A1, c1, rfl, l1, g1⟩, ⟨_, _, rfl, rfl, rfl⟩⟩⟩ := h
  exact ⟨A1, c1, rfl, l1, g1⟩
theorem k37_mk (w : World) (x : S37) {A1 : Option Addr} {c1 : Nat} (l1 : x.f1.length ≤ c1) (g1 : k64.C w A1 x.f1.length x.f1) : k37.K w x [.bool x.f0, .slice A1 x.f1.length c1, .string x.f2, .string x.f3] := ⟨[.bool x.f0], [.slice A1 x.f1.length c1, .string x.f2, .string x.f3], rfl, rfl, ⟨[.slice A1 x.f1.length c1], [.string x.f2, .string x.f3], rfl, ⟨A1, c1, rfl, l1, g1⟩, ⟨[.string x.f2], [.string x.f3], rfl, rfl, rfl⟩⟩⟩
def rd_T37 (xs : List S37) (i : Int) : S37 := xs.getD i.toNat z37
theorem at_T37 {w : World} {A : Option Addr} {n : Nat} {xs : List S37} (h : Kd.C k37 w A n xs) (i : Int) (h0 : 0 ≤ i) (h1 : i < n) : ∃ ad A1 c1, A = some ad ∧ w.cell? (ad.add (i.toNat * 4)) = some (.bool (rd_T37 xs i).f0) ∧ w.cell? ⟨(ad.add (i.toNat * 4)).block, (ad.add (i.toNat * 4)).off + 1, none⟩ = some (.slice A1 (rd_T37 xs i).f1.length c1) ∧ w.cell? ⟨(ad.add (i.toNat * 4)).block, (ad.add (i.toNat * 4)).off + 2, none⟩ = some (.string (rd_T37 xs i).f2) ∧ w.cell? ⟨(ad.add (i.toNat * 4)).block, (ad.add (i.toNat * 4)).off + 3, none⟩ = some (.string (rd_T37 xs i).f3) ∧ (rd_T37 xs i).f1.length ≤ c1 ∧ k64.C w A1 (rd_T37 xs i).f1.length (rd_T37 xs i).f1 := by
  obtain ⟨ad, c, e, _, hK, hc0⟩ := Kd.C_get h z37 i h0 h1
  have hc : ∀ j u, c[j]? = some u → w.cell? (ad.add (i.toNat * 4 + j)) = some u := hc0
  obtain ⟨A1, c1, rfl, l1, g1⟩ := k37_open hK
  exact ⟨ad, A1, c1, e, hc 0 _ rfl, by rw [← add_field _ _ 1 (by omega)]; exact hc 1 _ rfl, by rw [← add_field _ _ 2 (by omega)]; exact hc 2 _ rfl, by rw [← add_field _ _ 3 (by omega)]; exact hc 3 _ rfl, l1, g1⟩

end Go.Proofs.YtdliagehkiihpaaGreatDoor.QW
