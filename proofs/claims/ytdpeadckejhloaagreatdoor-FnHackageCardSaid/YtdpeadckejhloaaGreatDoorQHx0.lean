-- Written by a working copy of the kit's print program, turned at a few places by wip/tool/mkprint.py. Lean checks it.
import Derived.Test.YtdpeadckejhloaaGreatDoorProg
import Derived.Below
import Derived.Deep.Draws
import Derived.Deep.AppendLies
import Derived.Maps.AppendAt
import Derived.OwnWalk
import Derived.Laws.BytesArg
import Derived.Laws.MakeOwn
import Derived.Laws.OwnMore
import Derived.Deep.OwnRows
import Derived.Tactics
import Derived.Lib.ConvBytes
import Derived.Laws.Slices
import Derived.WalkKit
import Derived.KernelRfl
import Derived.RowKit3
import Derived.Deep.LoopGhost
import Derived.Deep.QuietTactic
import Derived.BigQuiet
import Derived.WideLaws
import Derived.Deep.DeepCutAuto
import Derived.Deep.CutBlock
import Derived.Deep.RegionHeld3
import Derived.Laws.Rows
import Derived.Lib.AppendStr
import Derived.ArgAppend
import Derived.Laws.IdiomCopy
import Derived.OrdersHeld
import Derived.Laws.BitsLemmas
import Derived.RowKit
import Derived.Test.YtdpeadckejhloaaGreatDoorZE
import Derived.Test.YtdpeadckejhloaaGreatDoorZD
import Derived.Test.YtdpeadckejhloaaGreatDoorZG
import Derived.Test.YtdpeadckejhloaaGreatDoorWWords
import Derived.Test.YtdpeadckejhloaaGreatDoorWLast
import Derived.Test.YtdpeadckejhloaaGreatDoorWQPut
import Derived.Test.YtdpeadckejhloaaGreatDoorWApart
import Derived.Test.YtdpeadckejhloaaGreatDoorWArr
import Derived.Test.YtdpeadckejhloaaGreatDoorWZeros
import Derived.Test.YtdpeadckejhloaaGreatDoorWFoot
import Derived.Test.YtdpeadckejhloaaGreatDoorWKept
import Derived.Test.YtdpeadckejhloaaGreatDoorWShare
import Derived.Test.YtdpeadckejhloaaGreatDoorWN
import Derived.Test.YtdpeadckejhloaaGreatDoorWNEv
import Derived.Test.YtdpeadckejhloaaGreatDoorWMore
namespace Go.Proofs.YtdpeadckejhloaaGreatDoor.QH
open Go.RowKit Go.Proofs.YtdpeadckejhloaaGreatDoorW.PrintWords Go.Proofs.YtdpeadckejhloaaGreatDoorW.PrintLast Go.Proofs.YtdpeadckejhloaaGreatDoorW.PrintMore
attribute [local go_sem] max2_int min2_int max_two min_two max_three min_three max_four min_four   -- for this text's walks alone
set_option linter.unusedVariables false
set_option linter.unusedSimpArgs false



def errW : Option Int → Value
  | none => .nilIface
  | some c => .iface 0 (.int .i64 c)
theorem bne_nil_ (l : List UInt8) : (l != []) = !l.isEmpty := by cases l <;> rfl
theorem errW_none : errW none = .nilIface := rfl
theorem errW_some (c : Int) : errW (some c) = .iface 0 (.int .i64 c) := rfl

theorem info9 : (Tryz.prog.info? 9).map (fun i => (i.zero, i.size, i.bytes)) = some (some (.string ⟨#[]⟩), 1, 16) := by kernel_rfl
theorem info77 : (Tryz.prog.info? 77).map (fun i => (i.zero, i.size, i.bytes)) = some (some (.agg #[(.bool false), (.string ⟨#[]⟩)]), 2, 24) := by kernel_rfl
-- the values' own types
/-! #### struct type 55 -/
structure S55 where
  f0 : Bool
  f1 : ByteArray
def z55 : S55 := ⟨false, (⟨#[]⟩ : ByteArray)⟩
def k55 : Kd S55 := Kd.iso (Kd.pair Kd.bool Kd.string) (fun x : S55 => (x.f0, x.f1))
theorem k55_open {w : World} {x : S55} {cs : List Value} (h : k55.K w x cs) : cs = [.bool x.f0, .string x.f1] := by
  obtain ⟨_, _, rfl, rfl, rfl⟩ := h
  exact rfl
theorem k55_mk (w : World) (x : S55)  : k55.K w x [.bool x.f0, .string x.f1] := ⟨[.bool x.f0], [.string x.f1], rfl, rfl, rfl⟩
def rd_T55 (xs : List S55) (i : Int) : S55 := xs.getD i.toNat z55
theorem at_T55 {w : World} {A : Option Addr} {n : Nat} {xs : List S55} (h : Kd.C k55 w A n xs) (i : Int) (h0 : 0 ≤ i) (h1 : i < n) : ∃ ad , A = some ad ∧ w.cell? (ad.add (i.toNat * 2)) = some (.bool (rd_T55 xs i).f0) ∧ w.cell? ⟨(ad.add (i.toNat * 2)).block, (ad.add (i.toNat * 2)).off + 1, none⟩ = some (.string (rd_T55 xs i).f1) := by
  obtain ⟨ad, c, e, _, hK, hc0⟩ := Kd.C_get h z55 i h0 h1
  have hc : ∀ j u, c[j]? = some u → w.cell? (ad.add (i.toNat * 2 + j)) = some u := hc0
  obtain rfl := k55_open hK
  exact ⟨ad, e, hc 0 _ rfl, by rw [← add_field _ _ 1 (by omega)]; exact hc 1 _ rfl⟩

/-! #### struct type 24 -/
structure S24 where
  f0 : Bool
  f1 : (List S55)
  f2 : ByteArray
  f3 : ByteArray
def z24 : S24 := ⟨false, ([] : List S55), (⟨#[]⟩ : ByteArray), (⟨#[]⟩ : ByteArray)⟩
def k24 : Kd S24 := Kd.iso (Kd.pair Kd.bool (Kd.pair (Kd.slice 55 k55) (Kd.pair Kd.string Kd.string))) (fun x : S24 => (x.f0, x.f1, x.f2, x.f3))
theorem k24_open {w : World} {x : S24} {cs : List Value} (h : k24.K w x cs) : ∃ A1 c1, cs = [.bool x.f0, .slice A1 x.f1.length c1, .string x.f2, .string x.f3] ∧ x.f1.length ≤ c1 ∧ k55.C w A1 x.f1.length x.f1 := by
  obtain ⟨_, _, rfl, rfl, ⟨_, _, rfl, ⟨A1, c1, rfl, l1, g1⟩, ⟨_, _, rfl, rfl, rfl⟩⟩⟩ := h
  exact ⟨A1, c1, rfl, l1, g1⟩
theorem k24_mk (w : World) (x : S24) {A1 : Option Addr} {c1 : Nat} (l1 : x.f1.length ≤ c1) (g1 : k55.C w A1 x.f1.length x.f1) : k24.K w x [.bool x.f0, .slice A1 x.f1.length c1, .string x.f2, .string x.f3] := ⟨[.bool x.f0], [.slice A1 x.f1.length c1, .string x.f2, .string x.f3], rfl, rfl, ⟨[.slice A1 x.f1.length c1], [.string x.f2, .string x.f3], rfl, ⟨A1, c1, rfl, l1, g1⟩, ⟨[.string x.f2], [.string x.f3], rfl, rfl, rfl⟩⟩⟩
def rd_T24 (xs : List S24) (i : Int) : S24 := xs.getD i.toNat z24
theorem at_T24 {w : World} {A : Option Addr} {n : Nat} {xs : List S24} (h : Kd.C k24 w A n xs) (i : Int) (h0 : 0 ≤ i) (h1 : i < n) : ∃ ad A1 c1, A = some ad ∧ w.cell? (ad.add (i.toNat * 4)) = some (.bool (rd_T24 xs i).f0) ∧ w.cell? ⟨(ad.add (i.toNat * 4)).block, (ad.add (i.toNat * 4)).off + 1, none⟩ = some (.slice A1 (rd_T24 xs i).f1.length c1) ∧ w.cell? ⟨(ad.add (i.toNat * 4)).block, (ad.add (i.toNat * 4)).off + 2, none⟩ = some (.string (rd_T24 xs i).f2) ∧ w.cell? ⟨(ad.add (i.toNat * 4)).block, (ad.add (i.toNat * 4)).off + 3, none⟩ = some (.string (rd_T24 xs i).f3) ∧ (rd_T24 xs i).f1.length ≤ c1 ∧ k55.C w A1 (rd_T24 xs i).f1.length (rd_T24 xs i).f1 := by
  obtain ⟨ad, c, e, _, hK, hc0⟩ := Kd.C_get h z24 i h0 h1
  have hc : ∀ j u, c[j]? = some u → w.cell? (ad.add (i.toNat * 4 + j)) = some u := hc0
  obtain ⟨A1, c1, rfl, l1, g1⟩ := k24_open hK
  exact ⟨ad, A1, c1, e, hc 0 _ rfl, by rw [← add_field _ _ 1 (by omega)]; exact hc 1 _ rfl, by rw [← add_field _ _ 2 (by omega)]; exact hc 2 _ rfl, by rw [← add_field _ _ 3 (by omega)]; exact hc 3 _ rfl, l1, g1⟩

/-! #### struct type 77 -/
structure S77 where
  f0 : Bool
  f1 : ByteArray
def z77 : S77 := ⟨false, (⟨#[]⟩ : ByteArray)⟩
def k77 : Kd S77 := Kd.iso (Kd.pair Kd.bool Kd.string) (fun x : S77 => (x.f0, x.f1))
theorem k77_open {w : World} {x : S77} {cs : List Value} (h : k77.K w x cs) : cs = [.bool x.f0, .string x.f1] := by
  obtain ⟨_, _, rfl, rfl, rfl⟩ := h
  exact rfl
theorem k77_mkM (w : World) (base : Nat) (ok : Nat → Prop) (x : S77)  : k77.M w base ok x [.bool x.f0, .string x.f1] := ⟨[.bool x.f0], [.string x.f1], rfl, rfl, rfl⟩
def rd_T77 (xs : List S77) (i : Int) : S77 := xs.getD i.toNat z77
theorem at_T77 {w : World} {A : Option Addr} {n : Nat} {xs : List S77} (h : Kd.C k77 w A n xs) (i : Int) (h0 : 0 ≤ i) (h1 : i < n) : ∃ ad , A = some ad ∧ w.cell? (ad.add (i.toNat * 2)) = some (.bool (rd_T77 xs i).f0) ∧ w.cell? ⟨(ad.add (i.toNat * 2)).block, (ad.add (i.toNat * 2)).off + 1, none⟩ = some (.string (rd_T77 xs i).f1) := by
  obtain ⟨ad, c, e, _, hK, hc0⟩ := Kd.C_get h z77 i h0 h1
  have hc : ∀ j u, c[j]? = some u → w.cell? (ad.add (i.toNat * 2 + j)) = some u := hc0
  obtain rfl := k77_open hK
  exact ⟨ad, e, hc 0 _ rfl, by rw [← add_field _ _ 1 (by omega)]; exact hc 1 _ rfl⟩

end Go.Proofs.YtdpeadckejhloaaGreatDoor.QH
