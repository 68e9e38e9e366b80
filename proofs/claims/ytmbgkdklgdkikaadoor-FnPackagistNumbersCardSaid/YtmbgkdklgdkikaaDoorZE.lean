/- Lists of texts, as bytes. -/
import Derived.Test.YtmbgkdklgdkikaaDoorZD
import Derived.Test.YtmbgkdklgdkikaaDoorZA
namespace Go.Proofs.YtmbgkdklgdkikaaDoor.Giv
open Go.RowKit Go.Proofs.YtmbgkdklgdkikaaDoorW.PrintWords Go.Proofs.YtmbgkdklgdkikaaDoorW.PrintLast Go.Proofs.YtmbgkdklgdkikaaDoor.Pk Go.Proofs.YtmbgkdklgdkikaaDoor.Ord
set_option linter.unusedVariables false
set_option linter.unusedSimpArgs false

/-- A list of texts, as bytes. -/
def tl (l : List ByteArray) : List (List UInt8) := l.map ByteArray.toList
theorem tl_len (l : List ByteArray) : (tl l).length = l.length := by simp [tl]
/-- Texts short enough to be read as numbers. -/
def fit (l : List ByteArray) : Bool := decide (l.length ≤ 100000) && l.all (fun x => decide (x.size ≤ 40000))
theorem fit_len {l : List ByteArray} (h : fit l = true) : l.length ≤ 100000 := by
  unfold fit at h
  rw [Bool.and_eq_true] at h
  exact of_decide_eq_true h.1
theorem fit_at {l : List ByteArray} (h : fit l = true) (k : Nat) {z : ByteArray} (hz : z.size ≤ 40000) : (l.getD k z).size ≤ 40000 := by
  unfold fit at h
  rw [Bool.and_eq_true, List.all_eq_true] at h
  rw [List.getD_eq_getElem?_getD]
  cases hk : l[k]? with
  | none => exact hz
  | some x =>
    have := h.2 x (List.mem_of_getElem? hk)
    simpa using this
theorem headD_drop (l : List ByteArray) (k : Nat) (z : ByteArray) : ((tl l).drop k).headD z.toList = (l.getD k z).toList := by
  unfold tl
  rw [← List.map_drop, List.getD_eq_getElem?_getD, ← List.head?_drop]
  cases l.drop k <;> rfl
theorem pad_step (c : List UInt8 → List UInt8 → Int) (z : ByteArray) (a b : List ByteArray) (n k : Nat) (h : k < n) : padN c z.toList (n - k) ((tl a).drop k) ((tl b).drop k) = if c (a.getD k z).toList (b.getD k z).toList = 0 then padN c z.toList (n - (k + 1)) ((tl a).drop (k + 1)) ((tl b).drop (k + 1)) else c (a.getD k z).toList (b.getD k z).toList := by
  rw [show n - k = (n - (k + 1)) + 1 by omega, padN, headD_drop, headD_drop, List.tail_drop, List.tail_drop]
theorem z48 : (⟨#[48]⟩ : ByteArray).size ≤ 40000 := by
  show 1 ≤ 40000
  omega
theorem zero_lit : (⟨#[48]⟩ : ByteArray).toList = [48] := lit_toList [48]
end Go.Proofs.YtmbgkdklgdkikaaDoor.Giv
