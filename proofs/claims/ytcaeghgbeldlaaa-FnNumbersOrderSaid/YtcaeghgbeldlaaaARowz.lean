/- What the rows of the statements over lists of plain numbers have in common: the arguments read. -/
import Derived.Test.YtcaeghgbeldlaaaQAx0
import Derived.Test.YtcaeghgbeldlaaaRows
import Derived.Deep.SlicePairs
import Derived.SliceStrings
import Derived.WalkKit
import Derived.ProofKit
import Derived.Below
import Derived.SizedLaws
import Derived.OpenShut
import Derived.ShutString
import Derived.ChangeOld
import Derived.LaidMore
import Derived.LaidSub
import Derived.ChangeArms
namespace Go.Proofs.Ytcaeghgbeldlaaa.Rowz
open Go.ChangeShapes Go.WideShapes Go.ChangeAt Go.RowKit Go.Deep Go.Proofs.YtcaeghgbeldlaaaW.PrintWords Go.Proofs.Ytcaeghgbeldlaaa.QA
set_option linter.unusedVariables false

def boolOf : Value → Bool | .bool b => b | _ => false
def strOf : Value → ByteArray | .string s => s | _ => ⟨#[]⟩
/-- A list of plain numbers that came in. -/
theorem arg_nums {H : Type} {enc : TypeId × Value → H} {W : World} {base : Nat} {v : Value} {d : DataW H} {p : List MemPlace}
    (hval : Value.okWide Try.prog W .any base 22 v) (h : DataW.Trod enc Try.prog W 0 (fun _ => true) true 22 v d p) :
    ∃ (A : Option Addr) (c : Nat) (l : List S29), v = .slice A l.length c ∧ l.length ≤ c ∧ Kd.C k29 W A l.length l ∧ (∀ x ∈ p, x.block < W.heap.size) := by
  have lt : ∀ x ∈ p, x.block < W.heap.size := by
    obtain ⟨m, hm⟩ := h
    exact DataW.trod_lt m _ _ _ hm
  obtain ⟨a, len, cap, rfl⟩ := okWide_slice Try.underlying22 hval
  obtain ⟨fuel, hf⟩ := h
  rcases open_slice_pairs Try.underlying22 Try.underlying29 (by kernel_rfl) rfl rfl (by kernel_rfl) (by kernel_rfl) hf with ⟨hcs, _⟩ | ⟨x, l, c, m, n, V0, V1, D0, D1, P0, P1, hcs, _, hl, hm, hmm, _, hx⟩
  · simp [Value.cells] at hcs
    obtain ⟨rfl, rfl, rfl⟩ := hcs
    exact ⟨none, 0, [], rfl, Nat.le_refl _, Kd.C_nil _ _, lt⟩
  · simp [Value.cells] at hcs
    obtain ⟨rfl, rfl, rfl⟩ := hcs
    have hm2 : m = cap := by simpa using hmm
    have hm' : cap ≤ 9223372036854775807 := by simpa [maxLen] using hm
    have e0 : ∀ i, i < m → V0 i = .bool (boolOf (V0 i)) := fun i hi => by
      obtain ⟨b, e, _⟩ := DataW.trod_bool Try.underlying4 (hx i hi).2.2.1
      simp at e
      rw [e]
      rfl
    have e1 : ∀ i, i < m → V1 i = .string (strOf (V1 i)) := fun i hi => by
      obtain ⟨b, e, _⟩ := DataW.trod_string Try.underlying9 (hx i hi).2.2.2
      simp at e
      rw [e]
      rfl
    refine ⟨some x, cap, (List.range len).map fun i => ⟨boolOf (V0 i), strOf (V1 i)⟩, by simp, by simpa using hl, ?_, lt⟩
    refine ⟨rfl, by simp; omega, fun _ => ⟨x, rfl, ?_⟩⟩
    intro j q hj
    have hlt : j < len := by
      have := (List.getElem?_eq_some_iff.1 hj).1
      simpa using this
    have hq : q = ⟨boolOf (V0 j), strOf (V1 j)⟩ := by
      rw [List.getElem?_map, List.getElem?_range hlt] at hj
      simpa using hj.symm
    subst hq
    refine ⟨[.bool (boolOf (V0 j)), .string (strOf (V1 j))], rfl, k29_mk W ⟨boolOf (V0 j), strOf (V1 j)⟩, ?_⟩
    intro i u hu
    have hj' := hx j (by omega)
    match i, hu with
    | 0, hu =>
      obtain rfl := Option.some.inj hu
      rw [← e0 j (by omega)]
      exact hj'.1
    | 1, hu =>
      obtain rfl := Option.some.inj hu
      rw [← e1 j (by omega)]
      exact hj'.2.1
theorem laidOut : laidOutB Try.prog = true := by kernel_rfl
end Go.Proofs.Ytcaeghgbeldlaaa.Rowz
