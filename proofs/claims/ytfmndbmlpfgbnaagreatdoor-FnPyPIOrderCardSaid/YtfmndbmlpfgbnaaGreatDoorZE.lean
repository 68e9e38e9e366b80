/- Lists of texts, as bytes. -/
import Derived.Test.YtfmndbmlpfgbnaaGreatDoorZD
import Derived.Test.YtfmndbmlpfgbnaaGreatDoorZA
namespace Go.Proofs.YtfmndbmlpfgbnaaGreatDoor.Giv
open Go.RowKit Go.Proofs.YtfmndbmlpfgbnaaGreatDoorW.PrintWords Go.Proofs.YtfmndbmlpfgbnaaGreatDoorW.PrintLast Go.Proofs.YtfmndbmlpfgbnaaGreatDoor.Pk Go.Proofs.YtfmndbmlpfgbnaaGreatDoor.Ord
set_option linter.unusedVariables false
set_option linter.unusedSimpArgs false

/-- A list of texts, as bytes. -/
def tl (l : List ByteArray) : List (List UInt8) := l.map ByteArray.toList
theorem tl_len (l : List ByteArray) : (tl l).length = l.length := by simp [tl]
/-- Texts short enough to be read as numbers. -/
def fit (l : List ByteArray) : Bool := decide (l.length ≤ 100000) && l.all (fun x => decide (x.size ≤ 40000))
theorem fit_len {l : List ByteArray} (h : fit l = true) : l.length ≤ 100000 := by
  unfold fit at h
  rw [Bool.and_eq_true] at h
  exact of_decide_eq_true h.1
theorem fit_at {l : List ByteArray} (h : fit l = true) (k : Nat) {z : ByteArray} (hz : z.size ≤ 40000) : (l.getD k z).size ≤ 40000 := by
  unfold fit at h
  rw [Bool.and_eq_true, List.all_eq_true] at h
  rw [List.getD_eq_getElem?_getD]
  cases hk : l[k]? with
  | none => exact hz
  | some x =>
    have := h.2 x (List.mem_of_getElem? hk)
    simpa using this
theorem z48 : (⟨#[48]⟩ : ByteArray).size ≤ 40000 := by
  show 1 ≤ 40000
  omega
end Go.Proofs.YtfmndbmlpfgbnaaGreatDoor.Giv
