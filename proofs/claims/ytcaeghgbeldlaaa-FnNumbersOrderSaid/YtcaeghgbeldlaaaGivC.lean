/- Contracts by hand: the search functions over texts. -/
import Derived.Test.YtcaeghgbeldlaaaProg
import Derived.WalkKit
import Derived.BigCall
import Derived.Laws.RangeAny
import Derived.Lib.OthersKept
import Derived.Lib.IndexBytes
import Derived.Lib.Hide
namespace Go.Proofs.Ytcaeghgbeldlaaa.Giv
open Go.RowKit
set_option linter.unusedSimpArgs false
set_option linter.unusedVariables false

/-- Bytes below 128 alone. -/
def asc (s : ByteArray) : Prop := ∀ (i : Nat) (h : i < s.size), (s[i]'h).toNat < 128
theorem toList_eq' (s : ByteArray) : s.toList = s.data.toList := by first | exact ByteArray.toList_eq s | exact Go.Lib.toList_data s
theorem len_toList (s : ByteArray) : s.toList.length = s.size := by rw [toList_eq']; simp
theorem getElem_toList (s : ByteArray) (k : Nat) (h : k < s.size) : s.toList[k]'(by rw [len_toList]; exact h) = s[k]'h := by
  simp only [toList_eq']
  rfl
theorem take_next' (s : ByteArray) (k : Nat) (h : k < s.size) : s.toList.take (k + 1) = s.toList.take k ++ [s[k]'h] := by
  rw [List.take_succ_eq_append_getElem (by rw [len_toList]; exact h), getElem_toList s k h]
theorem drop_at (s : ByteArray) (k : Nat) (h : k < s.size) : s.toList.drop k = s[k]'h :: s.toList.drop (k + 1) := by
  rw [List.drop_eq_getElem_cons (by rw [len_toList]; exact h), getElem_toList s k h]
theorem dec_cases' (s : ByteArray) (pos : Nat) (h : pos < s.size) : ((s[pos]'h).toNat < 128 ∧ Utf8.decode s pos = ((s[pos]'h).toNat, 1)) ∨ (128 ≤ (s[pos]'h).toNat ∧ 128 ≤ (Utf8.decode s pos).1 ∧ 1 ≤ (Utf8.decode s pos).2) := by
  by_cases ha : (s[pos]'h).toNat < 128
  · exact .inl ⟨ha, decode_ascii s pos h ha⟩
  · exact .inr ⟨by omega, decode_high s pos h (by omega)⟩

/-- Does the set have this rune? -/
def inSet (c : Int) (set : ByteArray) : Bool := set.toList.any (fun d => (d.toNat : Int) == c)
def inB (set : ByteArray) (d : UInt8) : Bool := inSet (d.toNat : Int) set
theorem inB_iff (set : ByteArray) (d : UInt8) : inB set d = true ↔ d ∈ set.toList := by
  unfold inB inSet
  rw [List.any_eq_true]
  constructor
  · rintro ⟨x, hx, e⟩
    rw [beq_iff_eq] at e
    have : x = d := UInt8.toNat_inj.1 (by omega)
    rwa [← this]
  · intro h
    exact ⟨d, h, by simp⟩
theorem inSet_high (set : ByteArray) (ha : asc set) (c : Int) (h : 128 ≤ c) : inSet c set = false := by
  unfold inSet
  rw [List.any_eq_false]
  intro x hx
  obtain ⟨i, hi, e⟩ := List.mem_iff_getElem.1 hx
  rw [len_toList] at hi
  have := ha i hi
  rw [getElem_toList set i hi] at e
  rw [e] at this
  simp only [beq_iff_eq]
  omega
/-- The place of the first byte that has it, or -1. -/
def placeOf (p : UInt8 → Bool) (l : List UInt8) : Int := if l.any p then (l.findIdx p : Int) else -1

end Go.Proofs.Ytcaeghgbeldlaaa.Giv
