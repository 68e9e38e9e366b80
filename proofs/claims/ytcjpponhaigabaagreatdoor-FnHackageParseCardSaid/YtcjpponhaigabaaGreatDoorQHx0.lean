-- Written by a working copy of the kit's print program, turned at a few places by wip/tool/mkprint.py. Lean checks it.
import Derived.Test.YtcjpponhaigabaaGreatDoorProg
import Derived.Below
import Derived.Deep.Draws
import Derived.Deep.AppendLies
import Derived.Maps.AppendAt
import Derived.OwnWalk
import Derived.Laws.BytesArg
import Derived.Laws.MakeOwn
import Derived.Laws.OwnMore
import Derived.Deep.OwnRows
import Derived.Tactics
import Derived.Lib.ConvBytes
import Derived.Laws.Slices
import Derived.WalkKit
import Derived.KernelRfl
import Derived.RowKit3
import Derived.Deep.LoopGhost
import Derived.Deep.QuietTactic
import Derived.BigQuiet
import Derived.WideLaws
import Derived.Deep.DeepCutAuto
import Derived.Deep.CutBlock
import Derived.Deep.RegionHeld3
import Derived.Laws.Rows
import Derived.Lib.AppendStr
import Derived.ArgAppend
import Derived.Laws.IdiomCopy
import Derived.OrdersHeld
import Derived.Laws.BitsLemmas
import Derived.RowKit
import Derived.Test.YtcjpponhaigabaaGreatDoorZY
import Derived.Test.YtcjpponhaigabaaGreatDoorZD
import Derived.Test.YtcjpponhaigabaaGreatDoorWWords
import Derived.Test.YtcjpponhaigabaaGreatDoorWLast
import Derived.Test.YtcjpponhaigabaaGreatDoorWTab
import Derived.Test.YtcjpponhaigabaaGreatDoorWFour
import Derived.Test.YtcjpponhaigabaaGreatDoorWQPut
import Derived.Test.YtcjpponhaigabaaGreatDoorWApart
import Derived.Test.YtcjpponhaigabaaGreatDoorWArr
import Derived.Test.YtcjpponhaigabaaGreatDoorWZeros
import Derived.Test.YtcjpponhaigabaaGreatDoorWFoot
import Derived.Test.YtcjpponhaigabaaGreatDoorWKept
import Derived.Test.YtcjpponhaigabaaGreatDoorWShare
import Derived.Test.YtcjpponhaigabaaGreatDoorWN
import Derived.Test.YtcjpponhaigabaaGreatDoorWFootNe
import Derived.Test.YtcjpponhaigabaaGreatDoorWAt
import Derived.Test.YtcjpponhaigabaaGreatDoorWEqStruct
import Derived.Test.YtcjpponhaigabaaGreatDoorWRepsOne
import Derived.Test.YtcjpponhaigabaaGreatDoorWInv
import Derived.Test.YtcjpponhaigabaaGreatDoorWInvWords
import Derived.Test.YtcjpponhaigabaaGreatDoorWGuard
import Derived.Test.YtcjpponhaigabaaGreatDoorWNEv
import Derived.Test.YtcjpponhaigabaaGreatDoorWMore
namespace Go.Proofs.YtcjpponhaigabaaGreatDoor.QH
open Go.RowKit Go.Proofs.YtcjpponhaigabaaGreatDoorW.PrintWords Go.Proofs.YtcjpponhaigabaaGreatDoorW.PrintLast Go.Proofs.YtcjpponhaigabaaGreatDoorW.PrintMore
attribute [local go_sem] max2_int min2_int max_two min_two max_three min_three max_four min_four   -- for this text's walks alone
set_option linter.unusedVariables false
set_option linter.unusedSimpArgs false



def errW : Option Int → Value
  | none => .nilIface
  | some c => .iface 0 (.int .i64 c)
theorem bne_nil_ (l : List UInt8) : (l != []) = !l.isEmpty := by cases l <;> rfl
theorem errW_none : errW none = .nilIface := rfl
theorem errW_some (c : Int) : errW (some c) = .iface 0 (.int .i64 c) := rfl

theorem info5 : (Tryz.prog.info? 5).map (fun i => (i.zero, i.size, i.bytes)) = some (some (.int .u8 0), 1, 1) := by kernel_rfl
theorem info9 : (Tryz.prog.info? 9).map (fun i => (i.zero, i.size, i.bytes)) = some (some (.string ⟨#[]⟩), 1, 16) := by kernel_rfl
theorem info48 : (Tryz.prog.info? 48).map (fun i => (i.zero, i.size, i.bytes)) = some (some (.agg #[(.bool false), (.string ⟨#[]⟩)]), 2, 24) := by kernel_rfl
-- the values' own types
/-! #### struct type 64 -/
structure S64 where
  f0 : Bool
  f1 : ByteArray
def z64 : S64 := ⟨false, (⟨#[]⟩ : ByteArray)⟩
def k64 : Kd S64 := Kd.iso (Kd.pair Kd.bool Kd.string) (fun x : S64 => (x.f0, x.f1))
theorem k64_open {w : World} {x : S64} {cs : List Value} (h : k64.K w x cs) : cs = [.bool x.f0, .string x.f1] := by
  obtain ⟨_, _, rfl, rfl, rfl⟩ := h
  exact rfl
theorem k64_openM {w : World} {base : Nat} {ok : Nat → Prop} {x : S64} {cs : List Value} (h : k64.M w base ok x cs) : cs = [.bool x.f0, .string x.f1] := by
  obtain ⟨_, _, rfl, rfl, rfl⟩ := h
  exact rfl
theorem k64_mk (w : World) (x : S64)  : k64.K w x [.bool x.f0, .string x.f1] := ⟨[.bool x.f0], [.string x.f1], rfl, rfl, rfl⟩
theorem k64_mkM (w : World) (base : Nat) (ok : Nat → Prop) (x : S64)  : k64.M w base ok x [.bool x.f0, .string x.f1] := ⟨[.bool x.f0], [.string x.f1], rfl, rfl, rfl⟩
def rd_T64 (xs : List S64) (i : Int) : S64 := xs.getD i.toNat z64
theorem at_T64 {w : World} {A : Option Addr} {n : Nat} {xs : List S64} (h : Kd.C k64 w A n xs) (i : Int) (h0 : 0 ≤ i) (h1 : i < n) : ∃ ad , A = some ad ∧ w.cell? (ad.add (i.toNat * 2)) = some (.bool (rd_T64 xs i).f0) ∧ w.cell? ⟨(ad.add (i.toNat * 2)).block, (ad.add (i.toNat * 2)).off + 1, none⟩ = some (.string (rd_T64 xs i).f1) := by
  obtain ⟨ad, c, e, _, hK, hc0⟩ := Kd.C_get h z64 i h0 h1
  have hc : ∀ j u, c[j]? = some u → w.cell? (ad.add (i.toNat * 2 + j)) = some u := hc0
  obtain rfl := k64_open hK
  exact ⟨ad, e, hc 0 _ rfl, by rw [← add_field _ _ 1 (by omega)]; exact hc 1 _ rfl⟩

/-! #### struct type 48 -/
structure S48 where
  f0 : Bool
  f1 : ByteArray
def z48 : S48 := ⟨false, (⟨#[]⟩ : ByteArray)⟩
def k48 : Kd S48 := Kd.iso (Kd.pair Kd.bool Kd.string) (fun x : S48 => (x.f0, x.f1))
theorem k48_open {w : World} {x : S48} {cs : List Value} (h : k48.K w x cs) : cs = [.bool x.f0, .string x.f1] := by
  obtain ⟨_, _, rfl, rfl, rfl⟩ := h
  exact rfl
theorem k48_openM {w : World} {base : Nat} {ok : Nat → Prop} {x : S48} {cs : List Value} (h : k48.M w base ok x cs) : cs = [.bool x.f0, .string x.f1] := by
  obtain ⟨_, _, rfl, rfl, rfl⟩ := h
  exact rfl
theorem k48_mk (w : World) (x : S48)  : k48.K w x [.bool x.f0, .string x.f1] := ⟨[.bool x.f0], [.string x.f1], rfl, rfl, rfl⟩
theorem k48_mkM (w : World) (base : Nat) (ok : Nat → Prop) (x : S48)  : k48.M w base ok x [.bool x.f0, .string x.f1] := ⟨[.bool x.f0], [.string x.f1], rfl, rfl, rfl⟩
def rd_T48 (xs : List S48) (i : Int) : S48 := xs.getD i.toNat z48
theorem at_T48 {w : World} {A : Option Addr} {n : Nat} {xs : List S48} (h : Kd.C k48 w A n xs) (i : Int) (h0 : 0 ≤ i) (h1 : i < n) : ∃ ad , A = some ad ∧ w.cell? (ad.add (i.toNat * 2)) = some (.bool (rd_T48 xs i).f0) ∧ w.cell? ⟨(ad.add (i.toNat * 2)).block, (ad.add (i.toNat * 2)).off + 1, none⟩ = some (.string (rd_T48 xs i).f1) := by
  obtain ⟨ad, c, e, _, hK, hc0⟩ := Kd.C_get h z48 i h0 h1
  have hc : ∀ j u, c[j]? = some u → w.cell? (ad.add (i.toNat * 2 + j)) = some u := hc0
  obtain rfl := k48_open hK
  exact ⟨ad, e, hc 0 _ rfl, by rw [← add_field _ _ 1 (by omega)]; exact hc 1 _ rfl⟩

end Go.Proofs.YtcjpponhaigabaaGreatDoor.QH
