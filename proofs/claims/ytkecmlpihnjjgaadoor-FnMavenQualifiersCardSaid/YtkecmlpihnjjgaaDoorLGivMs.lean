/- The walk of the law FnMavenSame: a version of Maven is equal to itself. -/
import Derived.Test.YtkecmlpihnjjgaaDoorLGivMc
namespace Go.Proofs.YtkecmlpihnjjgaaDoor.Giv
open Go.RowKit Go.Proofs.YtkecmlpihnjjgaaDoorW.PrintWords Go.Proofs.YtkecmlpihnjjgaaDoorW.PrintLast Go.Proofs.YtkecmlpihnjjgaaDoor.Pk Go.Proofs.YtkecmlpihnjjgaaDoor.Ord Go.Proofs.YtkecmlpihnjjgaaDoor.QL
set_option linter.unusedVariables false
set_option linter.unusedSimpArgs false

/-- A literal row of two lists of tokens. -/
theorem row_l2 {g n n' c d t : Nat} {A B : Option Addr} {l m : List S31} {w : World} (hg : w.heap[g]? = some (.cells #[.slice A n c, .slice B n' d] t (0, 0))) (e : n = l.length) (e' : n' = m.length) (hc : l.length ≤ c) (hd : m.length ≤ d) (hC : Kd.C k31 w A l.length l) (hD : Kd.C k31 w B m.length m) : Kd.C (Kd.slice 31 k31) w (some ⟨g, 0, none⟩) [l, m].length [l, m] := by
  subst e e'
  refine ⟨rfl, by simp, fun _ => ⟨_, rfl, fun j p hj => ?_⟩⟩
  have h0 : j < 2 := by
    have := (List.getElem?_eq_some_iff.1 hj).1
    simpa using this
  have one : ∀ (i : Nat) (u v : Value), ([v] : List Value)[i]? = some u → i = 0 ∧ v = u := by
    intro i u v hu
    have h1 : i = 0 := by
      have := (List.getElem?_eq_some_iff.1 hu).1
      simpa using this
    subst h1
    exact ⟨rfl, by simpa using hu⟩
  match j, h0 with
  | 0, _ =>
    obtain rfl : l = p := by simpa using hj
    refine ⟨[.slice A l.length c], rfl, ⟨A, c, rfl, hc, hC⟩, ?_⟩
    intro i u hu
    obtain ⟨rfl, rfl⟩ := one i u _ hu
    exact (blk_cell hg 0).trans rfl
  | 1, _ =>
    obtain rfl : m = p := by simpa using hj
    refine ⟨[.slice B m.length d], rfl, ⟨B, d, rfl, hd, hD⟩, ?_⟩
    intro i u hu
    obtain ⟨rfl, rfl⟩ := one i u _ hu
    exact (blk_cell hg 1).trans rfl
end Go.Proofs.YtkecmlpihnjjgaaDoor.Giv
