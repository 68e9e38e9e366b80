/- Contracts by hand: the search functions over texts.
   Small tools for what is proved of the printed functions: rounds, places in texts, cuts. No program.
   Texts as lists of bytes: sizes, places, cuts. No program.
   Contracts by hand: the order of two texts. -/
import Derived.Test.YtfmndbmlpfgbnaaGreatDoorProg
import Derived.WalkKit
import Derived.BigCall
import Derived.Laws.RangeAny
import Derived.Lib.OthersKept
import Derived.Lib.IndexBytes
import Derived.Lib.Hide
import Derived.Test.YtfmndbmlpfgbnaaGreatDoorWWords
import Derived.Test.YtfmndbmlpfgbnaaGreatDoorWLast
import Derived.Test.YtfmndbmlpfgbnaaGreatDoorZA
import Derived.WalkLawsBesides
import Derived.Lib.Bytealg
namespace Go.Proofs.YtfmndbmlpfgbnaaGreatDoor.Giv
open Go.RowKit
set_option linter.unusedSimpArgs false
set_option linter.unusedVariables false

theorem toList_eq' (s : ByteArray) : s.toList = s.data.toList := by first | exact ByteArray.toList_eq s | exact Go.Lib.toList_data s
theorem len_toList (s : ByteArray) : s.toList.length = s.size := by rw [toList_eq']; simp
theorem getElem_toList (s : ByteArray) (k : Nat) (h : k < s.size) : s.toList[k]'(by rw [len_toList]; exact h) = s[k]'h := by
  simp only [toList_eq']
  rfl
theorem drop_at (s : ByteArray) (k : Nat) (h : k < s.size) : s.toList.drop k = s[k]'h :: s.toList.drop (k + 1) := by
  rw [List.drop_eq_getElem_cons (by rw [len_toList]; exact h), getElem_toList s k h]
end Go.Proofs.YtfmndbmlpfgbnaaGreatDoor.Giv

namespace Go.Proofs.YtfmndbmlpfgbnaaGreatDoor.Pk
open Go.RowKit Go.Proofs.YtfmndbmlpfgbnaaGreatDoorW.PrintWords Go.Proofs.YtfmndbmlpfgbnaaGreatDoorW.PrintLast Go.Proofs.YtfmndbmlpfgbnaaGreatDoor.Giv
set_option linter.unusedVariables false
set_option linter.unusedSimpArgs false

theorem ev_pos {α : Type} {c : Prop} [Decidable c] {f g : Nat → Option α} {r : α} (h : c) (e : Ev f r) : Ev (fun k => if c then f k else g k) r := by
  simpa [h] using e
theorem ev_neg {α : Type} {c : Prop} [Decidable c] {f g : Nat → Option α} {r : α} (h : ¬ c) (e : Ev g r) : Ev (fun k => if c then f k else g k) r := by
  simpa [h] using e
theorem ev_some {α β : Type} {a : α} {f : Nat → α → Option β} {r : β} (h : Ev (fun k => f k a) r) : Ev (fun k => (some a).bind (f k)) r := h
theorem ev_at {α : Type} {a : Option α} {r : α} (h : a = some r) : Ev (fun _ => a) r := ⟨0, fun _ _ => h⟩
/-- It comes to an end with some answer. -/
def Tm {α : Type} (g : Nat → Option α) : Prop := ∃ r, Ev g r
theorem Tm.now {α : Type} (r : α) : Tm (fun _ => some r) := ⟨r, Ev.now r⟩
theorem Tm.ite {α : Type} {c : Prop} [Decidable c] {f g : Nat → Option α} (h : c → Tm f) (h' : ¬ c → Tm g) : Tm (fun k => if c then f k else g k) := by
  by_cases hc : c
  · obtain ⟨r, e⟩ := h hc
    exact ⟨r, ev_pos hc e⟩
  · obtain ⟨r, e⟩ := h' hc
    exact ⟨r, ev_neg hc e⟩
theorem Tm.bind {α β : Type} {g : Nat → Option α} {f : Nat → α → Option β} (h : Tm g) (k : ∀ a, Tm (fun n => f n a)) : Tm (fun n => (g n).bind (f n)) := by
  obtain ⟨a, e⟩ := h
  obtain ⟨r, e'⟩ := k a
  exact ⟨r, e.bind e'⟩
theorem Tm.step {α : Type} {g f : Nat → Option α} (h : ∀ k, g (k + 1) = f k) (k : Tm f) : Tm g := by
  obtain ⟨r, e⟩ := k
  exact ⟨r, Ev.step h e⟩

theorem wr (i : Nat) (h : i < 4611686018427387904) : wrap64 ((i : Int) + 1) = ((i + 1 : Nat) : Int) := by unfold wrap64; omega
theorem bt_nat (s : ByteArray) (i : Nat) (h : i < s.size) : bt s (i : Int) = ((s[i]'h).toNat : Int) := by
  unfold bt
  have e : (i : Int).toNat = i := Int.toNat_natCast i
  simp only [e, h, dif_pos]
theorem rdOf_nat {α : Type} (d : α) (xs : List α) (i : Nat) (h : i < xs.length) : rdOf d xs (i : Int) = xs[i]'h := by
  unfold rdOf
  rw [Int.toNat_natCast, List.getD_eq_getElem?_getD, List.getElem?_eq_getElem h]
  rfl
theorem rd_nat (xs : List Int) (i : Nat) (h : i < xs.length) : rd xs (i : Int) = xs[i]'h := by
  unfold rd
  rw [Int.toNat_natCast, List.getD_eq_getElem?_getD, List.getElem?_eq_getElem h]
  rfl
theorem ext_toList (s : ByteArray) (a b : Nat) : (s.extract a b).toList = (s.toList.drop a).take (b - a) := by
  rw [toList_eq', toList_eq']
  simp [ByteArray.data_extract]
theorem ext_all (s : ByteArray) (a : Nat) : (s.extract a s.size).toList = s.toList.drop a := by
  rw [ext_toList]
  exact List.take_of_length_le (by rw [List.length_drop, len_toList]; exact Nat.le_refl _)
theorem eq_of_toList {a b : ByteArray} (h : a.toList = b.toList) : a = b := by
  rw [toList_eq', toList_eq'] at h
  cases a
  cases b
  congr 1
  exact Array.toList_inj.1 h
end Go.Proofs.YtfmndbmlpfgbnaaGreatDoor.Pk

namespace Go.Proofs.YtfmndbmlpfgbnaaGreatDoor.Pk
open Go.RowKit Go.Proofs.YtfmndbmlpfgbnaaGreatDoorW.PrintWords Go.Proofs.YtfmndbmlpfgbnaaGreatDoorW.PrintLast Go.Proofs.YtfmndbmlpfgbnaaGreatDoor.Giv
set_option linter.unusedVariables false

def bs (l : List UInt8) : ByteArray := ⟨l.toArray⟩
theorem bs_toList (l : List UInt8) : (bs l).toList = l := by unfold bs; rw [toList_eq']
theorem bs_eq {s : ByteArray} {l : List UInt8} (h : s.toList = l) : s = bs l := eq_of_toList (h.trans (bs_toList l).symm)
theorem bs_of (s : ByteArray) : s = bs s.toList := bs_eq rfl
theorem bs_size (l : List UInt8) : (bs l).size = l.length := by rw [← len_toList, bs_toList]
theorem bs_extAll (l : List UInt8) (a : Nat) : (bs l).extract a (bs l).size = bs (l.drop a) := bs_eq (by rw [ext_all, bs_toList])
theorem bs_tail (c : UInt8) (r : List UInt8) : (bs (c :: r)).extract 1 (bs (c :: r)).size = bs r := bs_extAll _ 1
end Go.Proofs.YtfmndbmlpfgbnaaGreatDoor.Pk

namespace Go.Proofs.YtfmndbmlpfgbnaaGreatDoor.Giv
open Go.RowKit Go.Proofs.YtfmndbmlpfgbnaaGreatDoor.Ord
set_option linter.unusedSimpArgs false
set_option linter.unusedVariables false

theorem compare_cS : ∀ a b : List UInt8, Lib.compareBytes a b = cS a b
  | [], [] => rfl
  | [], _ :: _ => rfl
  | _ :: _, [] => rfl
  | x :: xs, y :: ys => by
    have ih := compare_cS xs ys
    have u : cS (x :: xs) (y :: ys) = if cB x y = 0 then cS xs ys else cB x y := rfl
    rw [u]
    simp only [Lib.compareBytes, ih, cB, cI, UInt8.lt_iff_toNat_lt]
    repeat' split
    all_goals first | rfl | omega | (exfalso; omega)

end Go.Proofs.YtfmndbmlpfgbnaaGreatDoor.Giv
