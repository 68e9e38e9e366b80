/- Texts cut at a byte; what stands behind a version's numbers compared. Plain Lean, no program. -/
import Derived.Test.YtfgechefinijbaaDoorZA
namespace Go.Proofs.YtfgechefinijbaaDoor.Cut
set_option linter.unusedVariables false
open Go.Proofs.YtfgechefinijbaaDoor.Ord Go.Proofs.YtfgechefinijbaaDoor.Rpm

/-- A text cut at each c. -/
def cutAt (c : UInt8) : List UInt8 → List (List UInt8)
  | [] => [[]]
  | x :: r => if x = c then [] :: cutAt c r else (match cutAt c r with | h :: t => (x :: h) :: t | [] => [[x]])
theorem cutAt_ne (c : UInt8) (l : List UInt8) : cutAt c l ≠ [] := by
  cases l with
  | nil => simp [cutAt]
  | cons x r =>
    unfold cutAt
    split
    · simp
    · split <;> simp
/-- Up to the first c, and behind it. -/
def upTo (c : UInt8) (l : List UInt8) : List UInt8 := l.takeWhile (fun x => !(x == c))
theorem cutAt_no (c : UInt8) : ∀ l : List UInt8, (l.any (fun x => x == c)) = false → cutAt c l = [l] ∧ upTo c l = l
  | [], _ => ⟨rfl, rfl⟩
  | x :: r, h => by
    rw [List.any_cons, Bool.or_eq_false_iff] at h
    obtain ⟨e1, e2⟩ := cutAt_no c r h.2
    have hx : ¬ x = c := by simpa using h.1
    refine ⟨?_, ?_⟩
    · unfold cutAt
      rw [if_neg hx, e1]
    · unfold upTo at e2 ⊢
      rw [List.takeWhile_cons_of_pos (by simp [hx]), e2]
theorem cutAt_yes (c : UInt8) : ∀ l : List UInt8, (l.any (fun x => x == c)) = true → cutAt c l = upTo c l :: cutAt c (l.drop ((upTo c l).length + 1)) ∧ (upTo c l).length < l.length ∧ (l.take (upTo c l).length) = upTo c l
  | [], h => by simp at h
  | x :: r, h => by
    by_cases hx : x = c
    · have e : upTo c (x :: r) = [] := by
        unfold upTo
        rw [List.takeWhile_cons_of_neg (by simp [hx])]
      rw [e]
      refine ⟨?_, by simp, rfl⟩
      conv => lhs; unfold cutAt
      rw [if_pos hx]
      rfl
    · rw [List.any_cons] at h
      have hr : (r.any fun x => x == c) = true := by simpa [hx] using h
      obtain ⟨e1, e2, e3⟩ := cutAt_yes c r hr
      have e : upTo c (x :: r) = x :: upTo c r := by
        unfold upTo
        rw [List.takeWhile_cons_of_pos (by simp [hx])]
      rw [e]
      refine ⟨?_, by simpa using e2, by rw [List.length_cons, List.take_succ_cons, e3]⟩
      conv => lhs; unfold cutAt
      rw [if_neg hx, e1]
      rfl
theorem cutAt_sizes (c : UInt8) : ∀ l : List UInt8, (cutAt c l).length ≤ l.length + 1 ∧ ∀ x ∈ cutAt c l, x.length ≤ l.length
  | [] => ⟨by simp [cutAt], by simp [cutAt]⟩
  | x :: r => by
    obtain ⟨h1, h2⟩ := cutAt_sizes c r
    unfold cutAt
    by_cases hx : x = c
    · rw [if_pos hx]
      refine ⟨by simp; omega, ?_⟩
      intro y hy
      rcases List.mem_cons.1 hy with rfl | hy
      · simp
      · have := h2 y hy
        simp
        omega
    · rw [if_neg hx]
      split
      · rename_i a t he
        rw [he] at h1 h2
        refine ⟨by simp at h1 ⊢; omega, ?_⟩
        intro y hy
        rcases List.mem_cons.1 hy with rfl | hy
        · have := h2 a List.mem_cons_self
          simp
          omega
        · have := h2 y (List.mem_cons_of_mem _ hy)
          simp
          omega
      · exact ⟨by simp, by intro y hy; rw [List.mem_singleton.1 hy]; simp⟩
/-- A hyphen ahead is dropped. -/
def trim (c : UInt8) (l : List UInt8) : List UInt8 := match l with
  | x :: r => if x = c then r else l
  | [] => []
theorem trim_len (c : UInt8) (l : List UInt8) : (trim c l).length ≤ l.length := by
  unfold trim
  cases l with
  | nil => simp
  | cons x r =>
    simp only
    split <;> simp
/-- What counts of what stands behind the numbers. -/
def core (l : List UInt8) : List UInt8 := trim 45 (upTo 43 l)
def em (l : List UInt8) : Int := if l = [] then 1 else 0
/-- What stands behind the numbers compared. -/
def buildC (a b : List UInt8) : Int := if cI (em (core a)) (em (core b)) = 0 then lexL Seg.idC (cutAt 46 (core a)) (cutAt 46 (core b)) else cI (em (core a)) (em (core b))
theorem buildC_cmp : Cmp buildC := (cI_cmp.key (fun l => em (core l))).then_ ((lexL_cmp Seg.idC_cmp).key (fun l => cutAt 46 (core l)))
theorem core_len (l : List UInt8) : (core l).length ≤ l.length := by
  have a := trim_len 45 (upTo 43 l)
  have b : (upTo 43 l).length ≤ l.length := List.Sublist.length_le (List.takeWhile_sublist _)
  unfold core
  omega
end Go.Proofs.YtfgechefinijbaaDoor.Cut
