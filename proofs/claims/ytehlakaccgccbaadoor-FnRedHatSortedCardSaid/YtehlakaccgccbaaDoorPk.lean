/- Small tools for what is proved of the printed functions: rounds, places in texts, cuts. No program. -/
import Derived.Test.YtehlakaccgccbaaDoorWWords
import Derived.Test.YtehlakaccgccbaaDoorWLast
import Derived.Test.YtehlakaccgccbaaDoorGivC
import Derived.Test.YtehlakaccgccbaaDoorRpm
namespace Go.Proofs.YtehlakaccgccbaaDoor.Pk
open Go.RowKit Go.Proofs.YtehlakaccgccbaaDoorW.PrintWords Go.Proofs.YtehlakaccgccbaaDoorW.PrintLast Go.Proofs.YtehlakaccgccbaaDoor.Giv
set_option linter.unusedVariables false
set_option linter.unusedSimpArgs false

theorem ev_pos {α : Type} {c : Prop} [Decidable c] {f g : Nat → Option α} {r : α} (h : c) (e : Ev f r) : Ev (fun k => if c then f k else g k) r := by
  simpa [h] using e
theorem ev_neg {α : Type} {c : Prop} [Decidable c] {f g : Nat → Option α} {r : α} (h : ¬ c) (e : Ev g r) : Ev (fun k => if c then f k else g k) r := by
  simpa [h] using e
theorem ev_some {α β : Type} {a : α} {f : Nat → α → Option β} {r : β} (h : Ev (fun k => f k a) r) : Ev (fun k => (some a).bind (f k)) r := h
/-- More rounds are no harm. -/
theorem ev_later {α : Type} {g : Nat → Option α} {r : α} (h : Ev g r) : Ev (fun k => g (k + 1)) r := by
  obtain ⟨K, h⟩ := h
  exact ⟨K, fun k hk => h (k + 1) (by omega)⟩
theorem ev_at {α : Type} {a : Option α} {r : α} (h : a = some r) : Ev (fun _ => a) r := ⟨0, fun _ _ => h⟩
theorem ev_det {α : Type} {g : Nat → Option α} {r q : α} (h : Ev g r) (h' : Ev g q) : r = q := by
  obtain ⟨K, h⟩ := h
  obtain ⟨K', h'⟩ := h'
  have a := h (max K K') (by omega)
  have b := h' (max K K') (by omega)
  rw [a] at b
  exact Option.some.inj b

/-- It comes to an end with some answer. -/
def Tm {α : Type} (g : Nat → Option α) : Prop := ∃ r, Ev g r
theorem Tm.now {α : Type} (r : α) : Tm (fun _ => some r) := ⟨r, Ev.now r⟩
theorem Tm.ite {α : Type} {c : Prop} [Decidable c] {f g : Nat → Option α} (h : c → Tm f) (h' : ¬ c → Tm g) : Tm (fun k => if c then f k else g k) := by
  by_cases hc : c
  · obtain ⟨r, e⟩ := h hc
    exact ⟨r, ev_pos hc e⟩
  · obtain ⟨r, e⟩ := h' hc
    exact ⟨r, ev_neg hc e⟩
theorem Tm.bind {α β : Type} {g : Nat → Option α} {f : Nat → α → Option β} (h : Tm g) (k : ∀ a, Tm (fun n => f n a)) : Tm (fun n => (g n).bind (f n)) := by
  obtain ⟨a, e⟩ := h
  obtain ⟨r, e'⟩ := k a
  exact ⟨r, e.bind e'⟩
theorem Tm.step {α : Type} {g f : Nat → Option α} (h : ∀ k, g (k + 1) = f k) (k : Tm f) : Tm g := by
  obtain ⟨r, e⟩ := k
  exact ⟨r, Ev.step h e⟩

theorem wr (i : Nat) (h : i < 4611686018427387904) : wrap64 ((i : Int) + 1) = ((i + 1 : Nat) : Int) := by unfold wrap64; omega
theorem wr2 (i j : Nat) (h : i + j < 4611686018427387904) : wrap64 ((i : Int) + (j : Int)) = ((i + j : Nat) : Int) := by unfold wrap64; omega
theorem wr0 : wrap64 (0 + 1) = ((1 : Nat) : Int) := by unfold wrap64; omega
theorem bt_nat (s : ByteArray) (i : Nat) (h : i < s.size) : bt s (i : Int) = ((s[i]'h).toNat : Int) := by
  unfold bt
  have e : (i : Int).toNat = i := Int.toNat_natCast i
  simp only [e, h, dif_pos]
theorem rdOf_nat {α : Type} (d : α) (xs : List α) (i : Nat) (h : i < xs.length) : rdOf d xs (i : Int) = xs[i]'h := by
  unfold rdOf
  rw [Int.toNat_natCast, List.getD_eq_getElem?_getD, List.getElem?_eq_getElem h]
  rfl
theorem rd_nat (xs : List Int) (i : Nat) (h : i < xs.length) : rd xs (i : Int) = xs[i]'h := by
  unfold rd
  rw [Int.toNat_natCast, List.getD_eq_getElem?_getD, List.getElem?_eq_getElem h]
  rfl
theorem ext_toList (s : ByteArray) (a b : Nat) : (s.extract a b).toList = (s.toList.drop a).take (b - a) := by
  rw [toList_eq', toList_eq']
  simp [ByteArray.data_extract]
theorem ext_all (s : ByteArray) (a : Nat) : (s.extract a s.size).toList = s.toList.drop a := by
  rw [ext_toList]
  exact List.take_of_length_le (by rw [List.length_drop, len_toList]; exact Nat.le_refl _)
theorem ext_head (s : ByteArray) (b : Nat) : (s.extract 0 b).toList = s.toList.take b := by
  rw [ext_toList]
  simp
theorem eq_of_toList {a b : ByteArray} (h : a.toList = b.toList) : a = b := by
  rw [toList_eq', toList_eq'] at h
  cases a
  cases b
  congr 1
  exact Array.toList_inj.1 h
theorem append_toList (a b : ByteArray) : (a ++ b).toList = a.toList ++ b.toList := by
  rw [toList_eq', toList_eq', toList_eq']
  simp
theorem lit_toList (l : List UInt8) : (⟨l.toArray⟩ : ByteArray).toList = l := by
  rw [toList_eq']

/-- A byte of a sort: its first place. -/
theorem placeOf_range (p : UInt8 → Bool) (l : List UInt8) : placeOf p l = -1 ∧ l.any p = false ∨ ∃ i : Nat, placeOf p l = i ∧ i < l.length ∧ (l.take i).any p = false ∧ ∃ h : i < l.length, p (l[i]'h) = true := by
  unfold placeOf
  by_cases ha : l.any p = true
  · right
    rw [if_pos ha]
    have hlt : l.findIdx p < l.length := by
      rw [List.findIdx_lt_length]
      simpa using ha
    refine ⟨l.findIdx p, rfl, hlt, ?_, hlt, List.findIdx_getElem (w := hlt)⟩
    rw [List.any_eq_false]
    intro x hx
    obtain ⟨j, hj, e⟩ := List.mem_iff_getElem.1 hx
    rw [List.length_take] at hj
    rw [List.getElem_take] at e
    have := List.not_of_lt_findIdx (p := p) (xs := l) (i := j) (by omega)
    rw [e] at this
    simpa using this
  · left
    rw [if_neg ha]
    exact ⟨rfl, by simpa using ha⟩
theorem placeOf_step (p : UInt8 → Bool) (l : List UInt8) (i : Nat) (hi : i < l.length) (hno : (l.take i).any p = false) (hy : p (l[i]'hi) = true) : placeOf p l = i := by
  rcases placeOf_range p l with ⟨_, hn⟩ | ⟨j, e, hj, hn, hj', hp⟩
  · rw [List.any_eq_false] at hn
    exact absurd hy (hn _ (List.getElem_mem hi))
  · rw [e]
    rcases Nat.lt_trichotomy j i with h | h | h
    · rw [List.any_eq_false] at hno
      have := hno (l[j]'hj') (List.mem_iff_getElem.2 ⟨j, by rw [List.length_take]; omega, by rw [List.getElem_take]⟩)
      exact absurd hp this
    · rw [h]
    · rw [List.any_eq_false] at hn
      have := hn (l[i]'hi) (List.mem_iff_getElem.2 ⟨i, by rw [List.length_take]; omega, by rw [List.getElem_take]⟩)
      exact absurd hy this
end Go.Proofs.YtehlakaccgccbaaDoor.Pk
