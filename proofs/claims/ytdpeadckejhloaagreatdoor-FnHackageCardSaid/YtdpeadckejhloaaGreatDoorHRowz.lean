/- What the rows of the statements over lists of plain numbers have in common: the arguments read. -/
import Derived.Test.YtdpeadckejhloaaGreatDoorQHx0
import Derived.Test.YtdpeadckejhloaaGreatDoorRows
import Derived.Deep.SlicePairs
import Derived.SliceStrings
import Derived.WalkKit
import Derived.ProofKit
import Derived.Below
import Derived.SizedLaws
import Derived.OpenShut
import Derived.ShutString
import Derived.ChangeOld
import Derived.LaidMore
import Derived.LaidSub
import Derived.ChangeArms
import Derived.Lib.SmallJoins
namespace Go.Proofs.YtdpeadckejhloaaGreatDoor.Rowz
open Go.ChangeShapes Go.WideShapes Go.ChangeAt Go.RowKit Go.Deep Go.Proofs.YtdpeadckejhloaaGreatDoorW.PrintWords Go.Proofs.YtdpeadckejhloaaGreatDoor.QH
set_option linter.unusedVariables false

def boolOf : Value → Bool | .bool b => b | _ => false
def strOf : Value → ByteArray | .string s => s | _ => ⟨#[]⟩
set_option maxRecDepth 100000
/-- A list of plain numbers that came in: its cell. -/
theorem cell_nums {H : Type} {enc : TypeId × Value → H} {W : World} {u : Value} {y : DataW H × List MemPlace} {n : Nat}
    (hf : DataW.trod enc Tryz.prog W 0 (fun _ => true) true n 22 [u] = some y) :
    ∃ (A : Option Addr) (c : Nat) (l : List S55), u = .slice A l.length c ∧ l.length ≤ c ∧ Kd.C k55 W A l.length l := by
  rcases open_slice_pairs Tryz.underlying22 Tryz.underlying55 (by kernel_rfl) rfl rfl (by kernel_rfl) (by kernel_rfl) hf with ⟨hcs, _⟩ | ⟨x, l, c, m, n, V0, V1, D0, D1, P0, P1, hcs, _, hl, hm, hmm, _, hx⟩
  · obtain rfl : u = .slice none 0 0 := by simpa using hcs
    exact ⟨none, 0, [], rfl, Nat.le_refl _, Kd.C_nil _ _⟩
  · have hu : u = .slice (some x) l c := by simpa using hcs
    subst hu
    have hm2 : m = c := by simpa using hmm
    have hm' : c ≤ 9223372036854775807 := by simpa [maxLen] using hm
    have hl' : l ≤ c := by simpa using hl
    have e0 : ∀ i, i < m → V0 i = .bool (boolOf (V0 i)) := fun i hi => by
      obtain ⟨b, e, _⟩ := DataW.trod_bool Tryz.underlying4 (hx i hi).2.2.1
      simp at e
      rw [e]
      rfl
    have e1 : ∀ i, i < m → V1 i = .string (strOf (V1 i)) := fun i hi => by
      obtain ⟨b, e, _⟩ := DataW.trod_string Tryz.underlying9 (hx i hi).2.2.2
      simp at e
      rw [e]
      rfl
    refine ⟨some x, c, (List.range l).map fun i => ⟨boolOf (V0 i), strOf (V1 i)⟩, by simp, by simpa using hl', ?_⟩
    refine ⟨rfl, by simp; omega, fun _ => ⟨x, rfl, ?_⟩⟩
    intro j q hj
    have hlt : j < l := by
      have := (List.getElem?_eq_some_iff.1 hj).1
      simpa using this
    have hq : q = ⟨boolOf (V0 j), strOf (V1 j)⟩ := by
      rw [List.getElem?_map, List.getElem?_range hlt] at hj
      simpa using hj.symm
    subst hq
    refine ⟨[.bool (boolOf (V0 j)), .string (strOf (V1 j))], rfl, k55_mk W ⟨boolOf (V0 j), strOf (V1 j)⟩, ?_⟩
    intro i u hu
    have hj' := hx j (by omega)
    match i, hu with
    | 0, hu =>
      obtain rfl := Option.some.inj hu
      rw [← e0 j (by omega)]
      exact hj'.1
    | 1, hu =>
      obtain rfl := Option.some.inj hu
      rw [← e1 j (by omega)]
      exact hj'.2.1
/-- A version like those of SemVer that came in, by value: its parts. -/
theorem arg_like {H : Type} {enc : TypeId × Value → H} {W : World} {base : Nat} {v : Value} {d : DataW H} {p : List MemPlace}
    (hval : Value.okWide Tryz.prog W .any base 24 v) (h : DataW.Trod enc Tryz.prog W 0 (fun _ => true) true 24 v d p) :
    ∃ (lv : Bool) (A : Option Addr) (c : Nat) (l : List S55) (b o : ByteArray), v = .agg #[.bool lv, .slice A l.length c, .string b, .string o] ∧ l.length ≤ c ∧ Kd.C k55 W A l.length l ∧ (∀ x ∈ p, x.block < W.heap.size) := by
  have lt : ∀ x ∈ p, x.block < W.heap.size := by
    obtain ⟨m, hm⟩ := h
    exact DataW.trod_lt m _ _ _ hm
  obtain ⟨u0, u1, u2, u3, y0, y1, y2, y3, m, rfl, rfl, rfl, t0, t1, t2, t3⟩ := Joins.open_agg4 Tryz.underlying24 (by kernel_rfl) (by kernel_rfl) hval h
  obtain ⟨lv, e0, _⟩ := DataW.trod_bool Tryz.underlying4 t0
  obtain ⟨b, e2, _⟩ := DataW.trod_string Tryz.underlying9 t2
  obtain ⟨o, e3, _⟩ := DataW.trod_string Tryz.underlying9 t3
  simp at e0 e2 e3
  subst e0 e2 e3
  obtain ⟨A, c, l, rfl, hc, hr⟩ := cell_nums t1
  exact ⟨lv, A, c, l, b, o, rfl, hc, hr, lt⟩
theorem laidOut : laidOutB Tryz.prog = true := by kernel_rfl
end Go.Proofs.YtdpeadckejhloaaGreatDoor.Rowz
