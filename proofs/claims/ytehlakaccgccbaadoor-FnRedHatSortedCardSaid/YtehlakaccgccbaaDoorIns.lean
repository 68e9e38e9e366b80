/- Putting in order by insertion, in plain Lean: what comes out is in order. No program. -/
import Derived.Test.YtehlakaccgccbaaDoorOrd
namespace Go.Proofs.YtehlakaccgccbaaDoor.Ins
open Go.Proofs.YtehlakaccgccbaaDoor.Ord
set_option linter.unusedVariables false

variable {α : Type}
/-- How many at the head are not greater. -/
def place (c : α → α → Int) (s : α) : List α → Nat
  | [] => 0
  | x :: r => if c x s > 0 then 0 else place c s r + 1
def ins (c : α → α → Int) (s : α) (l : List α) : List α := l.take (place c s l) ++ s :: l.drop (place c s l)
def sort (c : α → α → Int) : List α → List α → List α
  | acc, [] => acc
  | acc, s :: r => sort c (ins c s acc) r
theorem place_le (c : α → α → Int) (s : α) : ∀ l : List α, place c s l ≤ l.length
  | [] => Nat.le_refl _
  | x :: r => by
    unfold place
    split
    · exact Nat.zero_le _
    · have := place_le c s r
      simpa using this
/-- Where the search stands: none of those before is greater; the one there is, or there is none. -/
theorem place_of (c : α → α → Int) (s : α) : ∀ (l : List α) (k : Nat), k ≤ l.length → (∀ (i : Nat) (x : α), i < k → l[i]? = some x → ¬ c x s > 0) → (∀ x : α, l[k]? = some x → c x s > 0) → place c s l = k
  | [], k, hk, _, _ => by
    have : k = 0 := by simpa using hk
    rw [this]
    rfl
  | x :: r, 0, _, _, h => by
    unfold place
    rw [if_pos (h x rfl)]
  | x :: r, k + 1, hk, hb, h => by
    unfold place
    rw [if_neg (hb 0 x (Nat.succ_pos _) rfl), place_of c s r k (by simpa using hk) (fun i y hi hy => hb (i + 1) y (Nat.succ_lt_succ hi) hy) (fun y hy => h y hy)]
theorem ins_mem {c : α → α → Int} {s y : α} {l : List α} : y ∈ ins c s l ↔ y = s ∨ y ∈ l := by
  unfold ins
  have e := List.take_append_drop (place c s l) l
  constructor
  · intro h
    rcases List.mem_append.1 h with h | h
    · exact .inr (List.mem_of_mem_take h)
    · rcases List.mem_cons.1 h with h | h
      · exact .inl h
      · exact .inr (List.mem_of_mem_drop h)
  · rintro (rfl | h)
    · exact List.mem_append.2 (.inr (List.mem_cons_self ..))
    · rw [← e] at h
      rcases List.mem_append.1 h with h | h
      · exact List.mem_append.2 (.inl h)
      · exact List.mem_append.2 (.inr (List.mem_cons_of_mem _ h))
theorem ins_len (c : α → α → Int) (s : α) (l : List α) : (ins c s l).length = l.length + 1 := by
  unfold ins
  have := place_le c s l
  rw [List.length_append, List.length_cons, List.length_take, List.length_drop]
  omega
theorem sort_mem {c : α → α → Int} {y : α} : ∀ (l acc : List α), y ∈ sort c acc l ↔ y ∈ acc ∨ y ∈ l
  | [], acc => by simp [sort]
  | s :: r, acc => by
    rw [sort, sort_mem r, ins_mem, List.mem_cons]
    constructor
    · rintro ((h | h) | h)
      · exact .inr (.inl h)
      · exact .inl h
      · exact .inr (.inr h)
    · rintro (h | h | h)
      · exact .inl (.inr h)
      · exact .inl (.inl h)
      · exact .inr h
theorem sort_len (c : α → α → Int) : ∀ (l acc : List α), (sort c acc l).length = acc.length + l.length
  | [], acc => rfl
  | s :: r, acc => by
    rw [sort, sort_len c r, ins_len, List.length_cons]
    omega
/-- In order. -/
def Sorted (c : α → α → Int) (l : List α) : Prop := l.Pairwise (fun x y => c x y ≤ 0)
theorem place_lt (c : α → α → Int) (s : α) : ∀ (l : List α), ∀ x ∈ l.take (place c s l), c x s ≤ 0
  | [], x, h => by simp [place] at h
  | y :: r, x, h => by
    unfold place at h
    split at h
    · simp at h
    · next hn =>
      rw [List.take_succ_cons] at h
      rcases List.mem_cons.1 h with rfl | h
      · omega
      · exact place_lt c s r x h
theorem place_ge {c : α → α → Int} (hc : Cmp c) (s : α) : ∀ (l : List α), Sorted c l → ∀ x ∈ l.drop (place c s l), c s x ≤ 0
  | [], _, x, h => by simp at h
  | y :: r, hs, x, h => by
    obtain ⟨h1, h2⟩ := List.pairwise_cons.1 hs
    unfold place at h
    split at h
    · next hp =>
      rw [List.drop_zero] at h
      have f := hc.flip y s
      rcases List.mem_cons.1 h with rfl | h
      · omega
      · exact (hc.tr s y x (by omega) (h1 x h)).1
    · rw [List.drop_succ_cons] at h
      exact place_ge hc s r h2 x h
theorem ins_sorted {c : α → α → Int} (hc : Cmp c) (s : α) (l : List α) (h : Sorted c l) : Sorted c (ins c s l) := by
  unfold ins Sorted
  have hl := place_lt c s l
  have hg := place_ge hc s l h
  have e := List.take_append_drop (place c s l) l
  have h' : Sorted c (l.take (place c s l) ++ l.drop (place c s l)) := by rw [e]; exact h
  obtain ⟨p1, p2, p3⟩ := List.pairwise_append.1 h'
  refine List.pairwise_append.2 ⟨p1, List.pairwise_cons.2 ⟨hg, p2⟩, fun x hx y hy => ?_⟩
  rcases List.mem_cons.1 hy with rfl | hy
  · exact hl x hx
  · exact p3 x hx y hy
theorem sort_sorted {c : α → α → Int} (hc : Cmp c) : ∀ (l acc : List α), Sorted c acc → Sorted c (sort c acc l)
  | [], acc, h => h
  | s :: r, acc, h => by
    rw [sort]
    exact sort_sorted hc r _ (ins_sorted hc s acc h)
theorem sorted_at {c : α → α → Int} {l : List α} (h : Sorted c l) (i k : Nat) (hik : i < k) (x y : α) (hx : l[i]? = some x) (hy : l[k]? = some y) : c x y ≤ 0 := by
  obtain ⟨h1, rfl⟩ := List.getElem?_eq_some_iff.1 hx
  obtain ⟨h2, rfl⟩ := List.getElem?_eq_some_iff.1 hy
  exact List.pairwise_iff_getElem.1 h i k h1 h2 hik
end Go.Proofs.YtehlakaccgccbaaDoor.Ins
