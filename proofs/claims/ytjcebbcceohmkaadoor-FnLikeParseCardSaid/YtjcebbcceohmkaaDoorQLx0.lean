-- Written by a working copy of the kit's print program, turned at a few places by wip/tool/mkprint.py. Lean checks it.
import Derived.Test.YtjcebbcceohmkaaDoorProg
import Derived.Below
import Derived.Deep.Draws
import Derived.Deep.AppendLies
import Derived.Maps.AppendAt
import Derived.OwnWalk
import Derived.Laws.BytesArg
import Derived.Laws.MakeOwn
import Derived.Laws.OwnMore
import Derived.Deep.OwnRows
import Derived.Tactics
import Derived.Lib.ConvBytes
import Derived.Laws.Slices
import Derived.WalkKit
import Derived.KernelRfl
import Derived.RowKit3
import Derived.Deep.LoopGhost
import Derived.Deep.QuietTactic
import Derived.BigQuiet
import Derived.WideLaws
import Derived.Deep.DeepCutAuto
import Derived.Deep.CutBlock
import Derived.Deep.RegionHeld3
import Derived.Laws.Rows
import Derived.Lib.AppendStr
import Derived.ArgAppend
import Derived.Laws.IdiomCopy
import Derived.OrdersHeld
import Derived.Laws.BitsLemmas
import Derived.RowKit
import Derived.Test.YtjcebbcceohmkaaDoorZY
import Derived.Test.YtjcebbcceohmkaaDoorZD
import Derived.Test.YtjcebbcceohmkaaDoorWWords
import Derived.Test.YtjcebbcceohmkaaDoorWLast
import Derived.Test.YtjcebbcceohmkaaDoorWTab
import Derived.Test.YtjcebbcceohmkaaDoorWFour
import Derived.Test.YtjcebbcceohmkaaDoorWQPut
import Derived.Test.YtjcebbcceohmkaaDoorWApart
import Derived.Test.YtjcebbcceohmkaaDoorWArr
import Derived.Test.YtjcebbcceohmkaaDoorWZeros
import Derived.Test.YtjcebbcceohmkaaDoorWFoot
import Derived.Test.YtjcebbcceohmkaaDoorWKept
import Derived.Test.YtjcebbcceohmkaaDoorWShare
import Derived.Test.YtjcebbcceohmkaaDoorWN
import Derived.Test.YtjcebbcceohmkaaDoorWFootNe
import Derived.Test.YtjcebbcceohmkaaDoorWAt
import Derived.Test.YtjcebbcceohmkaaDoorWEqStruct
import Derived.Test.YtjcebbcceohmkaaDoorWRepsOne
import Derived.Test.YtjcebbcceohmkaaDoorWInv
import Derived.Test.YtjcebbcceohmkaaDoorWInvWords
import Derived.Test.YtjcebbcceohmkaaDoorWGuard
import Derived.Test.YtjcebbcceohmkaaDoorWNEv
import Derived.Test.YtjcebbcceohmkaaDoorWMore
namespace Go.Proofs.YtjcebbcceohmkaaDoor.QL
open Go.RowKit Go.Proofs.YtjcebbcceohmkaaDoorW.PrintWords Go.Proofs.YtjcebbcceohmkaaDoorW.PrintLast Go.Proofs.YtjcebbcceohmkaaDoorW.PrintMore
attribute [local go_sem] max2_int min2_int max_two min_two max_three min_three max_four min_four   -- for this text's walks alone
set_option linter.unusedVariables false
set_option linter.unusedSimpArgs false



def errW : Option Int → Value
  | none => .nilIface
  | some c => .iface 0 (.int .i64 c)
theorem bne_nil_ (l : List UInt8) : (l != []) = !l.isEmpty := by cases l <;> rfl
theorem errW_none : errW none = .nilIface := rfl
theorem errW_some (c : Int) : errW (some c) = .iface 0 (.int .i64 c) := rfl

theorem info5 : (Tryd.prog.info? 5).map (fun i => (i.zero, i.size, i.bytes)) = some (some (.int .u8 0), 1, 1) := by kernel_rfl
theorem info9 : (Tryd.prog.info? 9).map (fun i => (i.zero, i.size, i.bytes)) = some (some (.string ⟨#[]⟩), 1, 16) := by kernel_rfl
theorem info42 : (Tryd.prog.info? 42).map (fun i => (i.zero, i.size, i.bytes)) = some (some (.agg #[(.bool false), (.string ⟨#[]⟩)]), 2, 24) := by kernel_rfl
-- the values' own types
/-! #### struct type 89 -/
structure S89 where
  f0 : Bool
  f1 : ByteArray
def z89 : S89 := ⟨false, (⟨#[]⟩ : ByteArray)⟩
def k89 : Kd S89 := Kd.iso (Kd.pair Kd.bool Kd.string) (fun x : S89 => (x.f0, x.f1))
theorem k89_open {w : World} {x : S89} {cs : List Value} (h : k89.K w x cs) : cs = [.bool x.f0, .string x.f1] := by
  obtain ⟨_, _, rfl, rfl, rfl⟩ := h
  exact rfl
theorem k89_openM {w : World} {base : Nat} {ok : Nat → Prop} {x : S89} {cs : List Value} (h : k89.M w base ok x cs) : cs = [.bool x.f0, .string x.f1] := by
  obtain ⟨_, _, rfl, rfl, rfl⟩ := h
  exact rfl
theorem k89_mk (w : World) (x : S89)  : k89.K w x [.bool x.f0, .string x.f1] := ⟨[.bool x.f0], [.string x.f1], rfl, rfl, rfl⟩
theorem k89_mkM (w : World) (base : Nat) (ok : Nat → Prop) (x : S89)  : k89.M w base ok x [.bool x.f0, .string x.f1] := ⟨[.bool x.f0], [.string x.f1], rfl, rfl, rfl⟩
def rd_T89 (xs : List S89) (i : Int) : S89 := xs.getD i.toNat z89
theorem at_T89 {w : World} {A : Option Addr} {n : Nat} {xs : List S89} (h : Kd.C k89 w A n xs) (i : Int) (h0 : 0 ≤ i) (h1 : i < n) : ∃ ad , A = some ad ∧ w.cell? (ad.add (i.toNat * 2)) = some (.bool (rd_T89 xs i).f0) ∧ w.cell? ⟨(ad.add (i.toNat * 2)).block, (ad.add (i.toNat * 2)).off + 1, none⟩ = some (.string (rd_T89 xs i).f1) := by
  obtain ⟨ad, c, e, _, hK, hc0⟩ := Kd.C_get h z89 i h0 h1
  have hc : ∀ j u, c[j]? = some u → w.cell? (ad.add (i.toNat * 2 + j)) = some u := hc0
  obtain rfl := k89_open hK
  exact ⟨ad, e, hc 0 _ rfl, by rw [← add_field _ _ 1 (by omega)]; exact hc 1 _ rfl⟩

/-! #### struct type 42 -/
structure S42 where
  f0 : Bool
  f1 : ByteArray
def z42 : S42 := ⟨false, (⟨#[]⟩ : ByteArray)⟩
def k42 : Kd S42 := Kd.iso (Kd.pair Kd.bool Kd.string) (fun x : S42 => (x.f0, x.f1))
theorem k42_open {w : World} {x : S42} {cs : List Value} (h : k42.K w x cs) : cs = [.bool x.f0, .string x.f1] := by
  obtain ⟨_, _, rfl, rfl, rfl⟩ := h
  exact rfl
theorem k42_openM {w : World} {base : Nat} {ok : Nat → Prop} {x : S42} {cs : List Value} (h : k42.M w base ok x cs) : cs = [.bool x.f0, .string x.f1] := by
  obtain ⟨_, _, rfl, rfl, rfl⟩ := h
  exact rfl
theorem k42_mk (w : World) (x : S42)  : k42.K w x [.bool x.f0, .string x.f1] := ⟨[.bool x.f0], [.string x.f1], rfl, rfl, rfl⟩
theorem k42_mkM (w : World) (base : Nat) (ok : Nat → Prop) (x : S42)  : k42.M w base ok x [.bool x.f0, .string x.f1] := ⟨[.bool x.f0], [.string x.f1], rfl, rfl, rfl⟩
def rd_T42 (xs : List S42) (i : Int) : S42 := xs.getD i.toNat z42
theorem at_T42 {w : World} {A : Option Addr} {n : Nat} {xs : List S42} (h : Kd.C k42 w A n xs) (i : Int) (h0 : 0 ≤ i) (h1 : i < n) : ∃ ad , A = some ad ∧ w.cell? (ad.add (i.toNat * 2)) = some (.bool (rd_T42 xs i).f0) ∧ w.cell? ⟨(ad.add (i.toNat * 2)).block, (ad.add (i.toNat * 2)).off + 1, none⟩ = some (.string (rd_T42 xs i).f1) := by
  obtain ⟨ad, c, e, _, hK, hc0⟩ := Kd.C_get h z42 i h0 h1
  have hc : ∀ j u, c[j]? = some u → w.cell? (ad.add (i.toNat * 2 + j)) = some u := hc0
  obtain rfl := k42_open hK
  exact ⟨ad, e, hc 0 _ rfl, by rw [← add_field _ _ 1 (by omega)]; exact hc 1 _ rfl⟩

end Go.Proofs.YtjcebbcceohmkaaDoor.QL
