/- What the rows of the statements over tokens of Maven have in common: the lists of tokens that came in, the table of qualifiers laid. -/
import Derived.Test.YtkecmlpihnjjgaaDoorRowx
import Derived.Test.YtkecmlpihnjjgaaDoorLGivMs
import Derived.Deep.Slices
import Derived.Deep.SlicePairs
namespace Go.Proofs.YtkecmlpihnjjgaaDoor.Rowx
open Go.ChangeShapes Go.WideShapes Go.ChangeAt Go.RowKit Go.Deep Go.Proofs.YtkecmlpihnjjgaaDoorW.PrintWords Go.Proofs.YtkecmlpihnjjgaaDoor.QL
set_option linter.unusedVariables false

instance : Inhabited S31 := ⟨⟨⟨#[]⟩, ⟨#[]⟩, false⟩⟩
set_option maxRecDepth 100000 in
theorem cell_tokens {H : Type} {enc : TypeId × Value → H} {W : World} {u : Value} {y : DataW H × List MemPlace} {n : Nat}
    (hf : DataW.trod enc Tryd.prog W 0 (fun _ => true) true n 22 [u] = some y) :
    ∃ (A : Option Addr) (c : Nat) (l : List S31), u = .slice A l.length c ∧ l.length ≤ c ∧ Kd.C k31 W A l.length l := by
  rcases open_slice Tryd.underlying22 hf with ⟨hcs, _⟩ | ⟨a, len, cap, m, n, D, Pl, hcs, hb, hl, hm, hmm, _, hx⟩
  · obtain rfl : u = .slice none 0 0 := by simpa using hcs
    exact ⟨none, 0, [], rfl, Nat.le_refl _, Kd.C_nil _ _⟩
  have hu : u = .slice (some a) len cap := by simpa using hcs
  subst hu
  have hm2 : m = cap := by simpa using hmm
  have hm' : cap ≤ 9223372036854775807 := by simpa [maxLen] using hm
  have ce : Tryd.prog.cellsOf 31 = 3 := by kernel_rfl
  have each : ∀ i, i < m → ∃ q : S31, W.cell? (a.add (i * 3)) = some (.string q.f0) ∧ W.cell? (a.add (i * 3 + 1)) = some (.string q.f1) ∧ W.cell? (a.add (i * 3 + 2)) = some (.bool q.f2) := by
    intro i hi
    obtain ⟨cs', h1, h2⟩ := hx i hi
    rw [ce] at h1
    obtain ⟨_, hlen, hcell⟩ := World.cells?_some h1
    obtain ⟨xs, k, hk, hxy, _, hxl, hfi⟩ := DataW.trod_struct Tryd.underlying31 h2
    match xs, hxl, cs', hlen with
    | [y0, y1, y2], _, [v0, v1, v2], _ =>
      have g0 := hfi 0 _ rfl
      have g1 := hfi 1 _ rfl
      have g2 := hfi 2 _ rfl
      have c9 : Tryd.prog.cellsOf 9 = 1 := by kernel_rfl
      have c4 : Tryd.prog.cellsOf 4 = 1 := by kernel_rfl
      simp [c9, c4] at g0 g1 g2
      have e0 := hcell 0 (by omega)
      have e1 := hcell 1 (by omega)
      have e2 := hcell 2 (by omega)
      rw [Go.Deep.add_add] at e0 e1 e2
      obtain ⟨s0, r0, _⟩ := DataW.trod_string Tryd.underlying9 g0
      obtain ⟨s1, r1, _⟩ := DataW.trod_string Tryd.underlying9 g1
      obtain ⟨s2, r2, _⟩ := DataW.trod_bool Tryd.underlying4 g2
      simp at r0 r1 r2
      subst r0 r1 r2
      exact ⟨⟨s0, s1, s2⟩, by simpa using e0, by simpa using e1, by simpa using e2⟩
  obtain ⟨q, hq⟩ := choose_lt each
  refine ⟨some a, cap, (List.range len).map q, by simp, by simpa using hl, ?_⟩
  refine ⟨rfl, by simp; omega, fun _ => ⟨a, rfl, ?_⟩⟩
  intro j p hj
  have hlt : j < len := by
    have := (List.getElem?_eq_some_iff.1 hj).1
    simpa using this
  have hp : p = q j := by
    rw [List.getElem?_map, List.getElem?_range hlt] at hj
    simpa using hj.symm
  subst hp
  have h3 := hq j (by omega)
  refine ⟨[.string (q j).f0, .string (q j).f1, .bool (q j).f2], rfl, k31_mk W (q j), ?_⟩
  intro i u hu
  match i, hu with
  | 0, hu =>
    obtain rfl := Option.some.inj hu
    exact h3.1
  | 1, hu =>
    obtain rfl := Option.some.inj hu
    exact h3.2.1
  | 2, hu =>
    obtain rfl := Option.some.inj hu
    exact h3.2.2
set_option maxRecDepth 100000 in
/-- A list of tokens that came in. -/
theorem arg_tokens {H : Type} {enc : TypeId × Value → H} {W : World} {base : Nat} {v : Value} {d : DataW H} {p : List MemPlace}
    (hval : Value.okWide Tryd.prog W .any base 22 v) (h : DataW.Trod enc Tryd.prog W 0 (fun _ => true) true 22 v d p) :
    ∃ (A : Option Addr) (c : Nat) (l : List S31), v = .slice A l.length c ∧ l.length ≤ c ∧ Kd.C k31 W A l.length l ∧ (∀ x ∈ p, x.block < W.heap.size) := by
  have lt : ∀ x ∈ p, x.block < W.heap.size := by
    obtain ⟨m, hm⟩ := h
    exact DataW.trod_lt m _ _ _ hm
  obtain ⟨a, len, cap, rfl⟩ := okWide_slice Tryd.underlying22 hval
  obtain ⟨fuel, hf⟩ := h
  obtain ⟨A, c, l, h1, h2, h3⟩ := cell_tokens (u := .slice a len cap) (by simpa [Value.cells] using hf)
  exact ⟨A, c, l, h1, h2, h3, lt⟩
end Go.Proofs.YtkecmlpihnjjgaaDoor.Rowx
