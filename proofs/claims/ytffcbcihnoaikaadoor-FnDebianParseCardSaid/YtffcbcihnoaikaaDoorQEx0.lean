-- Written by a working copy of the kit's print program, turned at a few places by wip/tool/mkprint.py. Lean checks it.
import Derived.Test.YtffcbcihnoaikaaDoorProg
import Derived.Below
import Derived.Deep.Draws
import Derived.Deep.AppendLies
import Derived.Maps.AppendAt
import Derived.OwnWalk
import Derived.Laws.BytesArg
import Derived.Laws.MakeOwn
import Derived.Laws.OwnMore
import Derived.Deep.OwnRows
import Derived.Tactics
import Derived.Lib.ConvBytes
import Derived.Laws.Slices
import Derived.WalkKit
import Derived.KernelRfl
import Derived.RowKit3
import Derived.Deep.LoopGhost
import Derived.Deep.QuietTactic
import Derived.BigQuiet
import Derived.WideLaws
import Derived.Deep.DeepCutAuto
import Derived.Deep.CutBlock
import Derived.Deep.RegionHeld3
import Derived.Laws.Rows
import Derived.Lib.AppendStr
import Derived.ArgAppend
import Derived.Laws.IdiomCopy
import Derived.OrdersHeld
import Derived.Laws.BitsLemmas
import Derived.RowKit
import Derived.Test.YtffcbcihnoaikaaDoorGivDq
import Derived.Test.YtffcbcihnoaikaaDoorWWords
import Derived.Test.YtffcbcihnoaikaaDoorWLast
import Derived.Test.YtffcbcihnoaikaaDoorWTab
import Derived.Test.YtffcbcihnoaikaaDoorWFour
import Derived.Test.YtffcbcihnoaikaaDoorWQPut
import Derived.Test.YtffcbcihnoaikaaDoorWApart
import Derived.Test.YtffcbcihnoaikaaDoorWArr
import Derived.Test.YtffcbcihnoaikaaDoorWZeros
import Derived.Test.YtffcbcihnoaikaaDoorWFoot
import Derived.Test.YtffcbcihnoaikaaDoorWKept
import Derived.Test.YtffcbcihnoaikaaDoorWShare
import Derived.Test.YtffcbcihnoaikaaDoorWN
import Derived.Test.YtffcbcihnoaikaaDoorWFootNe
import Derived.Test.YtffcbcihnoaikaaDoorWAt
import Derived.Test.YtffcbcihnoaikaaDoorWEqStruct
import Derived.Test.YtffcbcihnoaikaaDoorWRepsOne
import Derived.Test.YtffcbcihnoaikaaDoorWInv
import Derived.Test.YtffcbcihnoaikaaDoorWInvWords
import Derived.Test.YtffcbcihnoaikaaDoorWGuard
import Derived.Test.YtffcbcihnoaikaaDoorWNEv
import Derived.Test.YtffcbcihnoaikaaDoorWMore
namespace Go.Proofs.YtffcbcihnoaikaaDoor.QE
open Go.RowKit Go.Proofs.YtffcbcihnoaikaaDoorW.PrintWords Go.Proofs.YtffcbcihnoaikaaDoorW.PrintLast Go.Proofs.YtffcbcihnoaikaaDoorW.PrintMore
attribute [local go_sem] max2_int min2_int max_two min_two max_three min_three max_four min_four   -- for this text's walks alone
set_option linter.unusedVariables false
set_option linter.unusedSimpArgs false



def errW : Option Int → Value
  | none => .nilIface
  | some c => .iface 0 (.int .i64 c)
theorem bne_nil_ (l : List UInt8) : (l != []) = !l.isEmpty := by cases l <;> rfl
theorem errW_none : errW none = .nilIface := rfl
theorem errW_some (c : Int) : errW (some c) = .iface 0 (.int .i64 c) := rfl

theorem info5 : (Tryd.prog.info? 5).map (fun i => (i.zero, i.size, i.bytes)) = some (some (.int .u8 0), 1, 1) := by kernel_rfl
theorem info9 : (Tryd.prog.info? 9).map (fun i => (i.zero, i.size, i.bytes)) = some (some (.string ⟨#[]⟩), 1, 16) := by kernel_rfl
-- the values' own types
/-! #### struct type 109 -/
structure S109 where
  f0 : Int
  f1 : Int
  f2 : Int
def z109 : S109 := ⟨(0 : Int), (0 : Int), (0 : Int)⟩
def k109 : Kd S109 := Kd.iso (Kd.pair (Kd.int .u16) (Kd.pair (Kd.int .u16) (Kd.int .u16))) (fun x : S109 => (x.f0, x.f1, x.f2))
theorem k109_open {w : World} {x : S109} {cs : List Value} (h : k109.K w x cs) : cs = [.int .u16 x.f0, .int .u16 x.f1, .int .u16 x.f2] := by
  obtain ⟨_, _, rfl, rfl, ⟨_, _, rfl, rfl, rfl⟩⟩ := h
  exact rfl
theorem k109_openM {w : World} {base : Nat} {ok : Nat → Prop} {x : S109} {cs : List Value} (h : k109.M w base ok x cs) : cs = [.int .u16 x.f0, .int .u16 x.f1, .int .u16 x.f2] := by
  obtain ⟨_, _, rfl, rfl, ⟨_, _, rfl, rfl, rfl⟩⟩ := h
  exact rfl
theorem k109_mk (w : World) (x : S109)  : k109.K w x [.int .u16 x.f0, .int .u16 x.f1, .int .u16 x.f2] := ⟨[.int .u16 x.f0], [.int .u16 x.f1, .int .u16 x.f2], rfl, rfl, ⟨[.int .u16 x.f1], [.int .u16 x.f2], rfl, rfl, rfl⟩⟩
theorem k109_mkM (w : World) (base : Nat) (ok : Nat → Prop) (x : S109)  : k109.M w base ok x [.int .u16 x.f0, .int .u16 x.f1, .int .u16 x.f2] := ⟨[.int .u16 x.f0], [.int .u16 x.f1, .int .u16 x.f2], rfl, rfl, ⟨[.int .u16 x.f1], [.int .u16 x.f2], rfl, rfl, rfl⟩⟩
def rd_T109 (xs : List S109) (i : Int) : S109 := xs.getD i.toNat z109
theorem at_T109 {w : World} {A : Option Addr} {n : Nat} {xs : List S109} (h : Kd.C k109 w A n xs) (i : Int) (h0 : 0 ≤ i) (h1 : i < n) : ∃ ad , A = some ad ∧ w.cell? (ad.add (i.toNat * 3)) = some (.int .u16 (rd_T109 xs i).f0) ∧ w.cell? ⟨(ad.add (i.toNat * 3)).block, (ad.add (i.toNat * 3)).off + 1, none⟩ = some (.int .u16 (rd_T109 xs i).f1) ∧ w.cell? ⟨(ad.add (i.toNat * 3)).block, (ad.add (i.toNat * 3)).off + 2, none⟩ = some (.int .u16 (rd_T109 xs i).f2) := by
  obtain ⟨ad, c, e, _, hK, hc0⟩ := Kd.C_get h z109 i h0 h1
  have hc : ∀ j u, c[j]? = some u → w.cell? (ad.add (i.toNat * 3 + j)) = some u := hc0
  obtain rfl := k109_open hK
  exact ⟨ad, e, hc 0 _ rfl, by rw [← add_field _ _ 1 (by omega)]; exact hc 1 _ rfl, by rw [← add_field _ _ 2 (by omega)]; exact hc 2 _ rfl⟩

/-! #### struct type 112 -/
structure S112 where
  f0 : Int
  f1 : Int
  f2 : Int
def z112 : S112 := ⟨(0 : Int), (0 : Int), (0 : Int)⟩
def k112 : Kd S112 := Kd.iso (Kd.pair (Kd.int .u32) (Kd.pair (Kd.int .u32) (Kd.int .u32))) (fun x : S112 => (x.f0, x.f1, x.f2))
theorem k112_open {w : World} {x : S112} {cs : List Value} (h : k112.K w x cs) : cs = [.int .u32 x.f0, .int .u32 x.f1, .int .u32 x.f2] := by
  obtain ⟨_, _, rfl, rfl, ⟨_, _, rfl, rfl, rfl⟩⟩ := h
  exact rfl
theorem k112_openM {w : World} {base : Nat} {ok : Nat → Prop} {x : S112} {cs : List Value} (h : k112.M w base ok x cs) : cs = [.int .u32 x.f0, .int .u32 x.f1, .int .u32 x.f2] := by
  obtain ⟨_, _, rfl, rfl, ⟨_, _, rfl, rfl, rfl⟩⟩ := h
  exact rfl
theorem k112_mk (w : World) (x : S112)  : k112.K w x [.int .u32 x.f0, .int .u32 x.f1, .int .u32 x.f2] := ⟨[.int .u32 x.f0], [.int .u32 x.f1, .int .u32 x.f2], rfl, rfl, ⟨[.int .u32 x.f1], [.int .u32 x.f2], rfl, rfl, rfl⟩⟩
theorem k112_mkM (w : World) (base : Nat) (ok : Nat → Prop) (x : S112)  : k112.M w base ok x [.int .u32 x.f0, .int .u32 x.f1, .int .u32 x.f2] := ⟨[.int .u32 x.f0], [.int .u32 x.f1, .int .u32 x.f2], rfl, rfl, ⟨[.int .u32 x.f1], [.int .u32 x.f2], rfl, rfl, rfl⟩⟩
def rd_T112 (xs : List S112) (i : Int) : S112 := xs.getD i.toNat z112
theorem at_T112 {w : World} {A : Option Addr} {n : Nat} {xs : List S112} (h : Kd.C k112 w A n xs) (i : Int) (h0 : 0 ≤ i) (h1 : i < n) : ∃ ad , A = some ad ∧ w.cell? (ad.add (i.toNat * 3)) = some (.int .u32 (rd_T112 xs i).f0) ∧ w.cell? ⟨(ad.add (i.toNat * 3)).block, (ad.add (i.toNat * 3)).off + 1, none⟩ = some (.int .u32 (rd_T112 xs i).f1) ∧ w.cell? ⟨(ad.add (i.toNat * 3)).block, (ad.add (i.toNat * 3)).off + 2, none⟩ = some (.int .u32 (rd_T112 xs i).f2) := by
  obtain ⟨ad, c, e, _, hK, hc0⟩ := Kd.C_get h z112 i h0 h1
  have hc : ∀ j u, c[j]? = some u → w.cell? (ad.add (i.toNat * 3 + j)) = some u := hc0
  obtain rfl := k112_open hK
  exact ⟨ad, e, hc 0 _ rfl, by rw [← add_field _ _ 1 (by omega)]; exact hc 1 _ rfl, by rw [← add_field _ _ 2 (by omega)]; exact hc 2 _ rfl⟩

end Go.Proofs.YtffcbcihnoaikaaDoor.QE
