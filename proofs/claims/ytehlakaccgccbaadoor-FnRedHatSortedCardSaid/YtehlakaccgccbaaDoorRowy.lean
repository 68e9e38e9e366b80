/- What the rows of the statements over texts and lists of texts have in common: the arguments read. -/
import Derived.Test.YtehlakaccgccbaaDoorWLast
import Derived.Test.YtehlakaccgccbaaDoorWWords
import Derived.Test.YtehlakaccgccbaaDoorRows
import Derived.SliceStrings
import Derived.WalkKit
import Derived.ProofKit
import Derived.Below
import Derived.SizedLaws
import Derived.OpenShut
import Derived.ShutString
import Derived.ChangeOld
import Derived.LaidMore
import Derived.LaidSub
import Derived.Stop.LaidErr
import Derived.Stop.Joined
import Derived.MakeChecks
namespace Go.Proofs.YtehlakaccgccbaaDoor.Rowx
open Go.ChangeShapes Go.WideShapes Go.ChangeAt Go.RowKit Go.Proofs.YtehlakaccgccbaaDoorW.PrintWords
set_option linter.unusedVariables false

/-- A list of texts that came in. -/
theorem arg_strings {H : Type} {enc : TypeId × Value → H} {P : Program} {W : World} {base : Nat} {t e : TypeId} {v : Value} {d : DataW H} {p : List MemPlace} (ht : P.underlying t = some (.slice e)) (he : P.underlying e = some .string) (hc : P.cellsOf e = 1)
    (hval : Value.okWide P W .any base t v) (h : DataW.Trod enc P W 0 (fun _ => true) true t v d p) :
    ∃ (A : Option Addr) (c : Nat) (l : List ByteArray), v = .slice A l.length c ∧ l.length ≤ c ∧ l.length ≤ 9223372036854775807 ∧ Kd.C Kd.string W A l.length l ∧ (∀ s ∈ l, s.size ≤ 9223372036854775807) ∧ (∀ x ∈ p, x.block < W.heap.size) := by
  have lt : ∀ x ∈ p, x.block < W.heap.size := by
    obtain ⟨m, hm⟩ := h
    exact DataW.trod_lt m _ _ _ hm
  obtain ⟨a, len, cap, rfl⟩ := okWide_slice ht hval
  obtain ⟨fuel, hf⟩ := h
  rcases open_strings ht he hc hf with ⟨hcs, _⟩ | ⟨x, l, c, ss, hcs, _, hl, hm, hz, _, hcell, hws⟩
  · simp [Value.cells] at hcs
    obtain ⟨rfl, rfl, rfl⟩ := hcs
    exact ⟨none, 0, [], rfl, Nat.le_refl _, by simp, Kd.C_nil _ _, by simp, lt⟩
  · simp [Value.cells] at hcs
    obtain ⟨rfl, rfl, rfl⟩ := hcs
    have hz' : ss.length = cap := by simpa using hz
    have len' : (ss.take len).length = len := by rw [List.length_take]; omega
    have hm' : cap ≤ 9223372036854775807 := by simpa [maxLen] using hm
    refine ⟨some x, cap, ss.take len, by rw [len'], by omega, by omega, ?_, fun s hs => by simpa [maxLen] using hws s (List.mem_of_mem_take hs), lt⟩
    refine ⟨rfl, by omega, fun _ => ⟨x, rfl, ?_⟩⟩
    intro j q hj
    have hlt : j < (ss.take len).length := (List.getElem?_eq_some_iff.1 hj).1
    have hq : ss[j]? = some q := by
      rw [List.getElem?_take] at hj
      split at hj
      · exact hj
      · cases hj
    refine ⟨[.string q], rfl, rfl, ?_⟩
    intro i u hu
    have hi : i = 0 := by
      have := (List.getElem?_eq_some_iff.1 hu).1
      simp at this
      exact this
    subst hi
    have hu' : u = .string q := by simpa using hu.symm
    rw [hu']
    show W.cell? (Go.Addr.add _ (j * 1 + 0)) = _
    rw [Nat.mul_one, Nat.add_zero]
    have := hcell j (by omega)
    rw [this, List.getD_eq_getElem?_getD, hq]
    rfl
theorem laidOut : laidOutB Tryd.prog = true := by kernel_rfl
end Go.Proofs.YtehlakaccgccbaaDoor.Rowx
