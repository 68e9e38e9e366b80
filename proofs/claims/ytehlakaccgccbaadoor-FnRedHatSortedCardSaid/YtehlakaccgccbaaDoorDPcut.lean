/- 'zzIndex', 'zzCut' at a text of one byte. -/
import Derived.Test.YtehlakaccgccbaaDoorPk
import Derived.Test.YtehlakaccgccbaaDoorQDx
namespace Go.Proofs.YtehlakaccgccbaaDoor.QD
open Go.RowKit Go.Proofs.YtehlakaccgccbaaDoorW.PrintWords Go.Proofs.YtehlakaccgccbaaDoorW.PrintLast Go.Proofs.YtehlakaccgccbaaDoor.Pk Go.Proofs.YtehlakaccgccbaaDoor.Giv
set_option linter.unusedVariables false

theorem one_size (c : UInt8) : (⟨#[c]⟩ : ByteArray).size = 1 := rfl
theorem one_toList (c : UInt8) : (⟨#[c]⟩ : ByteArray).toList = [c] := by rw [toList_eq']
theorem zzIndex_loop (s : ByteArray) (c : UInt8) (hs : s.size < 4611686018427387904) (d : Nat) : ∀ i : Nat, i + d = s.size → (s.toList.take i).any (fun x => x == c) = false → Ev (fun k => semantic_zzIndex.l0 k s ⟨#[c]⟩ (i : Int)) (placeOf (fun x => x == c) s.toList) := by
  induction d with
  | zero =>
    intro i hi hno
    have w := wr i (by omega)
    refine Ev.step (fun k => by rw [semantic_zzIndex.l0, one_size]) ?_
    have w' : wrap64 ((i : Int) + ((1 : Nat) : Int)) = ((i + 1 : Nat) : Int) := w
    rw [w']
    refine ev_neg (by omega) ?_
    rw [List.take_of_length_le (by rw [len_toList]; omega)] at hno
    have e : placeOf (fun x => x == c) s.toList = -1 := by
      unfold placeOf
      rw [hno]
      rfl
    rw [e]
    exact Ev.now _
  | succ d ih =>
    intro i hi hno
    have hlt : i < s.size := by omega
    have w := wr i (by omega)
    have w' : wrap64 ((i : Int) + ((1 : Nat) : Int)) = ((i + 1 : Nat) : Int) := w
    refine Ev.step (fun k => by rw [semantic_zzIndex.l0, one_size]) ?_
    rw [w', w]
    refine ev_pos (by omega) (ev_pos (by omega) (ev_pos (by omega) ?_))
    have hx : (s.extract ((i : Int)).toNat (((i + 1 : Nat) : Int)).toNat).toList = [s[i]'hlt] := by
      rw [Int.toNat_natCast, Int.toNat_natCast, ext_toList, drop_at s i hlt, show i + 1 - i = 1 by omega]
      rfl
    rw [hx, one_toList]
    by_cases h : (s[i]'hlt) = c
    · refine ev_pos (by rw [h]) ?_
      rw [placeOf_step _ s.toList i (by rw [len_toList]; exact hlt) hno (by rw [getElem_toList s i hlt, h]; simp)]
      exact Ev.now _
    · refine ev_neg (fun e => h (List.cons.inj e).1) ?_
      refine ih (i + 1) (by omega) ?_
      rw [take_next' s i hlt, List.any_append, hno]
      simpa using h
theorem zzIndex_ev (s : ByteArray) (c : UInt8) (hs : s.size < 4611686018427387904) : Ev (fun k => semantic_zzIndex.f k s ⟨#[c]⟩) (placeOf (fun x => x == c) s.toList) := zzIndex_loop s c hs s.size 0 (by omega) (by simp)
theorem zzCut_no (s : ByteArray) (c : UInt8) (hs : s.size < 4611686018427387904) (h : placeOf (fun x => x == c) s.toList = -1) : Ev (fun k => semantic_zzCut.f k s ⟨#[c]⟩) (s, ⟨#[]⟩, false) := by
  have e := zzIndex_ev s c hs
  rw [h] at e
  refine e.bind ?_
  exact ev_neg (by omega) (Ev.now _)
theorem zzCut_yes (s : ByteArray) (c : UInt8) (hs : s.size < 4611686018427387904) (i : Nat) (hi : i < s.size) (h : placeOf (fun x => x == c) s.toList = i) : Ev (fun k => semantic_zzCut.f k s ⟨#[c]⟩) (s.extract 0 i, s.extract (i + 1) s.size, true) := by
  have e := zzIndex_ev s c hs
  rw [h] at e
  refine e.bind ?_
  have w : wrap64 ((i : Int) + ((⟨#[c]⟩ : ByteArray).size : Int)) = ((i + 1 : Nat) : Int) := wr i (by omega)
  rw [w]
  refine ev_pos (by omega) (ev_pos (by omega) (ev_pos (by omega) (ev_pos (by omega) (ev_pos (by omega) ?_))))
  rw [Int.toNat_natCast, Int.toNat_natCast]
  exact Ev.now _
end Go.Proofs.YtehlakaccgccbaaDoor.QD
