/- Contracts by hand: the search functions over texts.
   Small tools for what is proved of the printed functions: rounds, places in texts, cuts. No program.
   Texts as lists of bytes: sizes, places, cuts. No program.
   Contracts by hand: the order of two texts. -/
import Derived.Test.YtkecmlpihnjjgaaDoorProg
import Derived.WalkKit
import Derived.BigCall
import Derived.Laws.RangeAny
import Derived.Lib.OthersKept
import Derived.Lib.IndexBytes
import Derived.Lib.Hide
import Derived.Test.YtkecmlpihnjjgaaDoorWWords
import Derived.Test.YtkecmlpihnjjgaaDoorWLast
import Derived.Test.YtkecmlpihnjjgaaDoorZA
import Derived.WalkLawsBesides
import Derived.Lib.Bytealg
namespace Go.Proofs.YtkecmlpihnjjgaaDoor.Giv
open Go.RowKit
set_option linter.unusedSimpArgs false
set_option linter.unusedVariables false

/-- Bytes below 128 alone. -/
def asc (s : ByteArray) : Prop := ∀ (i : Nat) (h : i < s.size), (s[i]'h).toNat < 128
theorem toList_eq' (s : ByteArray) : s.toList = s.data.toList := by first | exact ByteArray.toList_eq s | exact Go.Lib.toList_data s
theorem len_toList (s : ByteArray) : s.toList.length = s.size := by rw [toList_eq']; simp
theorem getElem_toList (s : ByteArray) (k : Nat) (h : k < s.size) : s.toList[k]'(by rw [len_toList]; exact h) = s[k]'h := by
  simp only [toList_eq']
  rfl
theorem drop_at (s : ByteArray) (k : Nat) (h : k < s.size) : s.toList.drop k = s[k]'h :: s.toList.drop (k + 1) := by
  rw [List.drop_eq_getElem_cons (by rw [len_toList]; exact h), getElem_toList s k h]
end Go.Proofs.YtkecmlpihnjjgaaDoor.Giv

namespace Go.Proofs.YtkecmlpihnjjgaaDoor.Pk
open Go.RowKit Go.Proofs.YtkecmlpihnjjgaaDoorW.PrintWords Go.Proofs.YtkecmlpihnjjgaaDoorW.PrintLast Go.Proofs.YtkecmlpihnjjgaaDoor.Giv
set_option linter.unusedVariables false
set_option linter.unusedSimpArgs false

theorem ev_pos {α : Type} {c : Prop} [Decidable c] {f g : Nat → Option α} {r : α} (h : c) (e : Ev f r) : Ev (fun k => if c then f k else g k) r := by
  simpa [h] using e
theorem ev_neg {α : Type} {c : Prop} [Decidable c] {f g : Nat → Option α} {r : α} (h : ¬ c) (e : Ev g r) : Ev (fun k => if c then f k else g k) r := by
  simpa [h] using e
theorem ev_some {α β : Type} {a : α} {f : Nat → α → Option β} {r : β} (h : Ev (fun k => f k a) r) : Ev (fun k => (some a).bind (f k)) r := h
/-- It comes to an end with some answer. -/
def Tm {α : Type} (g : Nat → Option α) : Prop := ∃ r, Ev g r
theorem Tm.now {α : Type} (r : α) : Tm (fun _ => some r) := ⟨r, Ev.now r⟩
theorem Tm.ite {α : Type} {c : Prop} [Decidable c] {f g : Nat → Option α} (h : c → Tm f) (h' : ¬ c → Tm g) : Tm (fun k => if c then f k else g k) := by
  by_cases hc : c
  · obtain ⟨r, e⟩ := h hc
    exact ⟨r, ev_pos hc e⟩
  · obtain ⟨r, e⟩ := h' hc
    exact ⟨r, ev_neg hc e⟩
theorem Tm.bind {α β : Type} {g : Nat → Option α} {f : Nat → α → Option β} (h : Tm g) (k : ∀ a, Tm (fun n => f n a)) : Tm (fun n => (g n).bind (f n)) := by
  obtain ⟨a, e⟩ := h
  obtain ⟨r, e'⟩ := k a
  exact ⟨r, e.bind e'⟩
theorem Tm.step {α : Type} {g f : Nat → Option α} (h : ∀ k, g (k + 1) = f k) (k : Tm f) : Tm g := by
  obtain ⟨r, e⟩ := k
  exact ⟨r, Ev.step h e⟩

theorem wr (i : Nat) (h : i < 4611686018427387904) : wrap64 ((i : Int) + 1) = ((i + 1 : Nat) : Int) := by unfold wrap64; omega
theorem bt_nat (s : ByteArray) (i : Nat) (h : i < s.size) : bt s (i : Int) = ((s[i]'h).toNat : Int) := by
  unfold bt
  have e : (i : Int).toNat = i := Int.toNat_natCast i
  simp only [e, h, dif_pos]
theorem rdOf_nat {α : Type} (d : α) (xs : List α) (i : Nat) (h : i < xs.length) : rdOf d xs (i : Int) = xs[i]'h := by
  unfold rdOf
  rw [Int.toNat_natCast, List.getD_eq_getElem?_getD, List.getElem?_eq_getElem h]
  rfl
theorem rd_nat (xs : List Int) (i : Nat) (h : i < xs.length) : rd xs (i : Int) = xs[i]'h := by
  unfold rd
  rw [Int.toNat_natCast, List.getD_eq_getElem?_getD, List.getElem?_eq_getElem h]
  rfl
theorem eq_of_toList {a b : ByteArray} (h : a.toList = b.toList) : a = b := by
  rw [toList_eq', toList_eq'] at h
  cases a
  cases b
  congr 1
  exact Array.toList_inj.1 h
end Go.Proofs.YtkecmlpihnjjgaaDoor.Pk

namespace Go.Proofs.YtkecmlpihnjjgaaDoor.Pk
open Go.RowKit Go.Proofs.YtkecmlpihnjjgaaDoorW.PrintWords Go.Proofs.YtkecmlpihnjjgaaDoorW.PrintLast Go.Proofs.YtkecmlpihnjjgaaDoor.Giv
set_option linter.unusedVariables false

def bs (l : List UInt8) : ByteArray := ⟨l.toArray⟩
theorem bs_toList (l : List UInt8) : (bs l).toList = l := by unfold bs; rw [toList_eq']
theorem bs_eq {s : ByteArray} {l : List UInt8} (h : s.toList = l) : s = bs l := eq_of_toList (h.trans (bs_toList l).symm)
theorem bs_of (s : ByteArray) : s = bs s.toList := bs_eq rfl
theorem bs_size (l : List UInt8) : (bs l).size = l.length := by rw [← len_toList, bs_toList]
theorem bs_bt (l : List UInt8) (i : Nat) (h : i < l.length) : bt (bs l) (i : Int) = (((l[i]'h)).toNat : Int) := by
  have h' : i < (bs l).size := by rw [bs_size]; exact h
  have := bt_nat (bs l) i h'
  rw [← getElem_toList (bs l) i h'] at this
  simp only [bs_toList] at this
  exact this
end Go.Proofs.YtkecmlpihnjjgaaDoor.Pk

namespace Go.Proofs.YtkecmlpihnjjgaaDoor.Giv
open Go.RowKit Go.Proofs.YtkecmlpihnjjgaaDoor.Ord
set_option linter.unusedSimpArgs false
set_option linter.unusedVariables false

theorem less_iff : ∀ a b : List UInt8, Op.bytesLess a b = true ↔ cS a b = -1
  | [], [] => by simp [Op.bytesLess, cS, lexL]
  | [], _ :: _ => by simp [Op.bytesLess, cS, lexL]
  | _ :: _, [] => by simp [Op.bytesLess, cS, lexL]
  | x :: xs, y :: ys => by
    have ih := less_iff xs ys
    have u : cS (x :: xs) (y :: ys) = if cB x y = 0 then cS xs ys else cB x y := rfl
    rw [u]
    simp only [Op.bytesLess, Bool.or_eq_true, Bool.and_eq_true, decide_eq_true_eq, beq_iff_eq, ih, UInt8.lt_iff_toNat_lt]
    by_cases z : cB x y = 0
    · have e := cB_zero.1 z
      subst e
      rw [if_pos z]
      simp
    · rw [if_neg z]
      have hne : x ≠ y := fun e => z (cB_zero.2 e)
      have v : cB x y = -1 ↔ x.toNat < y.toNat := by
        unfold cB
        rw [cI_neg]
        omega
      rw [v]
      simp [hne]
theorem less_cS (a b : List UInt8) : Op.bytesLess a b = decide (cS a b = -1) := by
  rw [Bool.eq_iff_iff, less_iff]
  simp
theorem beq_cS (a b : List UInt8) : (a == b) = decide (cS a b = 0) := by
  rw [Bool.eq_iff_iff]
  simp [cS_zero]
def spec_order.f (a0 a1 : ByteArray) : Option Int := some (cS a0.toList a1.toList)
theorem spec_order.calls (a0 a1 : ByteArray) (r : Int) (w : World) (h : spec_order.f a0 a1 = some r) :
    Calls Tryd.prog 38 #[.string a0, .string a1] w fun e w' => e = .returned (.int .i64 r) ∧ ∃ n, w' = w.drewN n := by
  obtain rfl := Option.some.inj h
  clear h
  have hl := less_cS a0.toList a1.toList
  have hq := beq_cS a0.toList a1.toList
  rcases cS_cmp.rng a0.toList a1.toList with e | e | e
  · rw [e] at hl hq ⊢
    have hl' : Op.bytesLess a0.toList a1.toList = true := by simpa using hl
    clear hl hq e
    go_enter Tryd.func38, Tryd.ntmps38
    go_wp2
    go_ret
    exact ⟨rfl, 0, rfl⟩
  · rw [e] at hl hq ⊢
    have hl' : Op.bytesLess a0.toList a1.toList = false := by simpa using hl
    have hq' : (a0.toList == a1.toList) = true := by simpa using hq
    clear hl hq e
    go_enter Tryd.func38, Tryd.ntmps38
    go_wp2
    go_ret
    exact ⟨rfl, 0, rfl⟩
  · rw [e] at hl hq ⊢
    have hl' : Op.bytesLess a0.toList a1.toList = false := by simpa using hl
    have hq' : (a0.toList == a1.toList) = false := by simpa using hq
    clear hl hq e
    go_enter Tryd.func38, Tryd.ntmps38
    go_wp2
    go_ret
    exact ⟨rfl, 0, rfl⟩
end Go.Proofs.YtkecmlpihnjjgaaDoor.Giv
