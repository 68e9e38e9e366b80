/- Several texts of this claim in one. Put together by wip/tool/merge.py. -/
import Derived.Test.YtfmndbmlpfgbnaaGreatDoorQYx0
import Derived.Test.YtfmndbmlpfgbnaaGreatDoorRows
import Derived.Deep.SlicePairs
import Derived.SliceStrings
import Derived.WalkKit
import Derived.ProofKit
import Derived.Below
import Derived.SizedLaws
import Derived.OpenShut
import Derived.ShutString
import Derived.ChangeOld
import Derived.LaidMore
import Derived.LaidSub
import Derived.ChangeArms
import Derived.Test.YtfmndbmlpfgbnaaGreatDoorRowx
import Derived.Test.YtfmndbmlpfgbnaaGreatDoorZYA
/- What the rows of the statements over lists of plain numbers have in common: the arguments read. -/
namespace Go.Proofs.YtfmndbmlpfgbnaaGreatDoor.Rowz
open Go.ChangeShapes Go.WideShapes Go.ChangeAt Go.RowKit Go.Deep Go.Proofs.YtfmndbmlpfgbnaaGreatDoorW.PrintWords Go.Proofs.YtfmndbmlpfgbnaaGreatDoor.QY
set_option linter.unusedVariables false

def boolOf : Value → Bool | .bool b => b | _ => false
def strOf : Value → ByteArray | .string s => s | _ => ⟨#[]⟩
set_option maxRecDepth 100000
/-- A list of plain numbers that came in: its cell. -/
theorem cell_nums {H : Type} {enc : TypeId × Value → H} {W : World} {u : Value} {y : DataW H × List MemPlace} {n : Nat}
    (hf : DataW.trod enc Tryz.prog W 0 (fun _ => true) true n 24 [u] = some y) :
    ∃ (A : Option Addr) (c : Nat) (l : List S23), u = .slice A l.length c ∧ l.length ≤ c ∧ Kd.C k23 W A l.length l := by
  rcases open_slice_pairs Tryz.underlying24 Tryz.underlying23 (by kernel_rfl) rfl rfl (by kernel_rfl) (by kernel_rfl) hf with ⟨hcs, _⟩ | ⟨x, l, c, m, n, V0, V1, D0, D1, P0, P1, hcs, _, hl, hm, hmm, _, hx⟩
  · obtain rfl : u = .slice none 0 0 := by simpa using hcs
    exact ⟨none, 0, [], rfl, Nat.le_refl _, Kd.C_nil _ _⟩
  · have hu : u = .slice (some x) l c := by simpa using hcs
    subst hu
    have hm2 : m = c := by simpa using hmm
    have hm' : c ≤ 9223372036854775807 := by simpa [maxLen] using hm
    have hl' : l ≤ c := by simpa using hl
    have e0 : ∀ i, i < m → V0 i = .bool (boolOf (V0 i)) := fun i hi => by
      obtain ⟨b, e, _⟩ := DataW.trod_bool Tryz.underlying4 (hx i hi).2.2.1
      simp at e
      rw [e]
      rfl
    have e1 : ∀ i, i < m → V1 i = .string (strOf (V1 i)) := fun i hi => by
      obtain ⟨b, e, _⟩ := DataW.trod_string Tryz.underlying9 (hx i hi).2.2.2
      simp at e
      rw [e]
      rfl
    refine ⟨some x, c, (List.range l).map fun i => ⟨boolOf (V0 i), strOf (V1 i)⟩, by simp, by simpa using hl', ?_⟩
    refine ⟨rfl, by simp; omega, fun _ => ⟨x, rfl, ?_⟩⟩
    intro j q hj
    have hlt : j < l := by
      have := (List.getElem?_eq_some_iff.1 hj).1
      simpa using this
    have hq : q = ⟨boolOf (V0 j), strOf (V1 j)⟩ := by
      rw [List.getElem?_map, List.getElem?_range hlt] at hj
      simpa using hj.symm
    subst hq
    refine ⟨[.bool (boolOf (V0 j)), .string (strOf (V1 j))], rfl, k23_mk W ⟨boolOf (V0 j), strOf (V1 j)⟩, ?_⟩
    intro i u hu
    have hj' := hx j (by omega)
    match i, hu with
    | 0, hu =>
      obtain rfl := Option.some.inj hu
      rw [← e0 j (by omega)]
      exact hj'.1
    | 1, hu =>
      obtain rfl := Option.some.inj hu
      rw [← e1 j (by omega)]
      exact hj'.2.1
theorem laidOut : laidOutB Tryz.prog = true := by kernel_rfl
end Go.Proofs.YtfmndbmlpfgbnaaGreatDoor.Rowz
/- A version of PyPI that came in, by value. Laid with key Y. -/
namespace Go.Proofs.YtfmndbmlpfgbnaaGreatDoor.Rowp
open Go.ChangeShapes Go.WideShapes Go.ChangeAt Go.RowKit Go.Deep Go.Proofs.YtfmndbmlpfgbnaaGreatDoorW.PrintWords Go.Proofs.YtfmndbmlpfgbnaaGreatDoor.Giv Go.Proofs.YtfmndbmlpfgbnaaGreatDoor.Pyr
set_option linter.unusedVariables false
set_option linter.unusedSimpArgs false
set_option linter.constructorNameAsVariable false
variable {H : Type} {enc : TypeId × Value → H} {W : World}
theorem c9 : Tryz.prog.cellsOf 9 = 1 := by kernel_rfl
theorem c4 : Tryz.prog.cellsOf 4 = 1 := by kernel_rfl
theorem c23 : Tryz.prog.cellsOf 23 = 2 := by kernel_rfl
theorem c24 : Tryz.prog.cellsOf 24 = 1 := by kernel_rfl
theorem c26 : Tryz.prog.cellsOf 26 = 4 := by kernel_rfl
theorem c27 : Tryz.prog.cellsOf 27 = 1 := by kernel_rfl
theorem c29 : Tryz.prog.cellsOf 29 = 17 := by kernel_rfl
theorem num2 {u0 u1 : Value} {y : DataW H × List MemPlace} {n : Nat} (h : DataW.trod enc Tryz.prog W 0 (fun _ => true) true n 23 [u0, u1] = some y) : ∃ (a : Bool) (b : ByteArray), u0 = .bool a ∧ u1 = .string b := by
  obtain ⟨xs, k, hk, hxy, _, hxl, hfi⟩ := DataW.trod_struct Tryz.underlying23 h
  match xs, hxl with
  | [y0, y1], _ =>
    have g0 := hfi 0 _ rfl
    have g1 := hfi 1 _ rfl
    simp [c9, c4] at g0 g1
    obtain ⟨s0, r0, _⟩ := DataW.trod_bool Tryz.underlying4 g0
    obtain ⟨s1, r1, _⟩ := DataW.trod_string Tryz.underlying9 g1
    simp at r0 r1
    exact ⟨s0, s1, r0, r1⟩
theorem let4 {u0 u1 u2 u3 : Value} {y : DataW H × List MemPlace} {n : Nat} (h : DataW.trod enc Tryz.prog W 0 (fun _ => true) true n 26 [u0, u1, u2, u3] = some y) : ∃ (a : Bool) (b : ByteArray) (c : Bool) (d : ByteArray), u0 = .bool a ∧ u1 = .string b ∧ u2 = .bool c ∧ u3 = .string d := by
  obtain ⟨xs, k, hk, hxy, _, hxl, hfi⟩ := DataW.trod_struct Tryz.underlying26 h
  match xs, hxl with
  | [y0, y1, y2], _ =>
    have g0 := hfi 0 _ rfl
    have g1 := hfi 1 _ rfl
    have g2 := hfi 2 _ rfl
    simp [c9, c4, c23] at g0 g1 g2
    obtain ⟨s0, r0, _⟩ := DataW.trod_bool Tryz.underlying4 g0
    obtain ⟨s1, r1, _⟩ := DataW.trod_string Tryz.underlying9 g1
    obtain ⟨s2, s3, r2, r3⟩ := num2 g2
    simp at r0 r1
    exact ⟨s0, s1, s2, s3, r0, r1, r2, r3⟩
theorem cell_strs {u : Value} {y : DataW H × List MemPlace} {n : Nat} (hf : DataW.trod enc Tryz.prog W 0 (fun _ => true) true n 27 [u] = some y) :
    ∃ (A : Option Addr) (c : Nat) (l : List ByteArray), u = .slice A l.length c ∧ l.length ≤ c ∧ Kd.C Kd.string W A l.length l := by
  rcases open_strings Tryz.underlying27 Tryz.underlying9 c9 hf with ⟨hcs, _⟩ | ⟨x, l, c, ss, hcs, _, hl, hm, hz, _, hcell, hws⟩
  · obtain rfl : u = .slice none 0 0 := by simpa using hcs
    exact ⟨none, 0, [], rfl, Nat.le_refl _, Kd.C_nil _ _⟩
  · obtain rfl : u = .slice (some x) l c := by simpa using hcs
    have hz' : ss.length = c := by simpa using hz
    have hl' : l ≤ c := by simpa using hl
    have len' : (ss.take l).length = l := by rw [List.length_take]; omega
    have hm' : c ≤ 9223372036854775807 := by simpa [maxLen] using hm
    refine ⟨some x, c, ss.take l, by rw [len'], by omega, ?_⟩
    refine ⟨rfl, by omega, fun _ => ⟨x, rfl, ?_⟩⟩
    intro j q hj
    have hlt : j < (ss.take l).length := (List.getElem?_eq_some_iff.1 hj).1
    have hq : ss[j]? = some q := by
      rw [List.getElem?_take] at hj
      split at hj
      · exact hj
      · cases hj
    refine ⟨[.string q], rfl, rfl, ?_⟩
    intro i u hu
    have hi : i = 0 := by
      have := (List.getElem?_eq_some_iff.1 hu).1
      simp at this
      exact this
    subst hi
    have hu' : u = .string q := by simpa using hu.symm
    rw [hu']
    show W.cell? (Go.Addr.add _ (j * 1 + 0)) = _
    rw [Nat.mul_one, Nat.add_zero]
    have := hcell j (by omega)
    rw [this, List.getD_eq_getElem?_getD, hq]
    rfl
set_option maxRecDepth 100000 in
theorem arg_py {base : Nat} {v : Value} {d : DataW H} {p : List MemPlace} (hval : Value.okWide Tryz.prog W .any base 29 v) (h : DataW.Trod enc Tryz.prog W 0 (fun _ => true) true 29 v d p) :
    ∃ (P : Py) (rel : List SY) (loc leg : List ByteArray), v = .agg (pyA P) ∧ Row W P rel loc leg ∧ (∀ x ∈ p, x.block < W.heap.size) := by
  have lt : ∀ x ∈ p, x.block < W.heap.size := by
    obtain ⟨m, hm⟩ := h
    exact DataW.trod_lt m _ _ _ hm
  obtain ⟨cs, rfl, hsz⟩ := okWide_struct Tryz.underlying29 hval
  have hsz' : cs.toList.length = 17 := by
    rw [Array.length_toList, hsz]
    exact c29
  obtain ⟨fuel, hf⟩ := h
  have hf' : DataW.trod enc Tryz.prog W 0 (fun _ => true) true fuel 29 cs.toList = some (d, p) := by simpa [Value.cells] using hf
  clear hf hval hsz
  obtain ⟨l⟩ := cs
  dsimp only at hsz' hf'
  match l, hsz', hf' with
  | [u0, u1, u2, u3, u4, u5, u6, u7, u8, u9, u10, u11, u12, u13, u14, u15, u16], _, hf' =>
    obtain ⟨xs, k, hk, hxy, _, hxl, hfi⟩ := DataW.trod_struct Tryz.underlying29 hf'
    match xs, hxl with
    | [y0, y1, y2, y3, y4, y5, y6], _ =>
      have g0 := hfi 0 _ rfl
      have g1 := hfi 1 _ rfl
      have g2 := hfi 2 _ rfl
      have g3 := hfi 3 _ rfl
      have g4 := hfi 4 _ rfl
      have g5 := hfi 5 _ rfl
      have g6 := hfi 6 _ rfl
      simp [c23, c24, c26, c27] at g0 g1 g2 g3 g4 g5 g6
      obtain ⟨e0, e1, rfl, rfl⟩ := num2 g0
      obtain ⟨RA, rc, rel, rfl, hrc, hr⟩ := Rowz.cell_nums g1
      obtain ⟨a0, a1, a2, a3, rfl, rfl, rfl, rfl⟩ := let4 g2
      obtain ⟨b0, b1, b2, b3, rfl, rfl, rfl, rfl⟩ := let4 g3
      obtain ⟨d0, d1, d2, d3, rfl, rfl, rfl, rfl⟩ := let4 g4
      obtain ⟨LA, lc, loc, rfl, hlc, hl⟩ := cell_strs g5
      obtain ⟨GA, gc, leg, rfl, hgc, hg⟩ := cell_strs g6
      exact ⟨⟨e0, e1, RA, rel.length, rc, a0, a1, a2, a3, b0, b1, b2, b3, d0, d1, d2, d3, LA, loc.length, lc, GA, leg.length, gc⟩, rel, loc, leg, rfl, ⟨rfl, hr, hrc, rfl, hl, hlc, rfl, hg, hgc⟩, lt⟩
end Go.Proofs.YtfmndbmlpfgbnaaGreatDoor.Rowp
