/- Texts as lists of bytes: sizes, places, cuts. No program. -/
import Derived.Test.YtehlakaccgccbaaDoorPk
namespace Go.Proofs.YtehlakaccgccbaaDoor.Pk
open Go.RowKit Go.Proofs.YtehlakaccgccbaaDoorW.PrintWords Go.Proofs.YtehlakaccgccbaaDoorW.PrintLast Go.Proofs.YtehlakaccgccbaaDoor.Giv
set_option linter.unusedVariables false

def bs (l : List UInt8) : ByteArray := ⟨l.toArray⟩
theorem bs_toList (l : List UInt8) : (bs l).toList = l := by unfold bs; rw [toList_eq']
theorem bs_eq {s : ByteArray} {l : List UInt8} (h : s.toList = l) : s = bs l := eq_of_toList (h.trans (bs_toList l).symm)
theorem bs_of (s : ByteArray) : s = bs s.toList := bs_eq rfl
theorem bs_size (l : List UInt8) : (bs l).size = l.length := by rw [← len_toList, bs_toList]
theorem bs_bt0 (c : UInt8) (r : List UInt8) : bt (bs (c :: r)) 0 = (c.toNat : Int) := by
  have := bt_nat (bs (c :: r)) 0 (by rw [bs_size]; simp)
  rw [← getElem_toList (bs (c :: r)) 0 (by rw [bs_size]; simp)] at this
  simp only [bs_toList] at this
  exact this
theorem bs_bt (l : List UInt8) (i : Nat) (h : i < l.length) : bt (bs l) (i : Int) = (((l[i]'h)).toNat : Int) := by
  have h' : i < (bs l).size := by rw [bs_size]; exact h
  have := bt_nat (bs l) i h'
  rw [← getElem_toList (bs l) i h'] at this
  simp only [bs_toList] at this
  exact this
theorem bs_ext (l : List UInt8) (a b : Nat) : (bs l).extract a b = bs ((l.drop a).take (b - a)) := bs_eq (by rw [ext_toList, bs_toList])
theorem bs_extAll (l : List UInt8) (a : Nat) : (bs l).extract a (bs l).size = bs (l.drop a) := bs_eq (by rw [ext_all, bs_toList])
theorem bs_extHead (l : List UInt8) (b : Nat) : (bs l).extract 0 b = bs (l.take b) := bs_eq (by rw [ext_head, bs_toList])
theorem bs_tail (c : UInt8) (r : List UInt8) : (bs (c :: r)).extract 1 (bs (c :: r)).size = bs r := bs_extAll _ 1
theorem bs_append (a b : List UInt8) : bs a ++ bs b = bs (a ++ b) := bs_eq (by rw [append_toList, bs_toList, bs_toList])
theorem bs_nil : (⟨#[]⟩ : ByteArray) = bs [] := rfl
theorem bs_beq (a b : List UInt8) : ((bs a).toList == b) = decide (a = b) := by rw [bs_toList, Bool.eq_iff_iff]; simp
theorem take_tw (p : UInt8 → Bool) (l : List UInt8) : l.take (l.takeWhile p).length = l.takeWhile p := by
  induction l with
  | nil => rfl
  | cons c r ih =>
    by_cases h : p c = true
    · rw [List.takeWhile_cons_of_pos h, List.length_cons, List.take_succ_cons, ih]
    · rw [List.takeWhile_cons_of_neg h]
      rfl
theorem drop_tw (p : UInt8 → Bool) (l : List UInt8) : l.drop (l.takeWhile p).length = l.dropWhile p := by
  induction l with
  | nil => rfl
  | cons c r ih =>
    by_cases h : p c = true
    · rw [List.takeWhile_cons_of_pos h, List.length_cons, List.drop_succ_cons, ih, List.dropWhile_cons_of_pos h]
    · rw [List.takeWhile_cons_of_neg h, List.dropWhile_cons_of_neg h]
      rfl
theorem tw_le (p : UInt8 → Bool) (l : List UInt8) : (l.takeWhile p).length ≤ l.length := List.Sublist.length_le (List.takeWhile_sublist _)
theorem dw_le (p : UInt8 → Bool) (l : List UInt8) : (l.dropWhile p).length ≤ l.length := List.Sublist.length_le (List.dropWhile_sublist _)
end Go.Proofs.YtehlakaccgccbaaDoor.Pk
