/- Red Hat versions as a plain function on bytes: into which parts they fall, how they compare. No program. -/
import Derived.Test.YtehlakaccgccbaaDoorRpm
namespace Go.Proofs.YtehlakaccgccbaaDoor.Red
set_option linter.unusedVariables false
open Go.Proofs.YtehlakaccgccbaaDoor.Ord Go.Proofs.YtehlakaccgccbaaDoor

def notC (c : UInt8) (x : UInt8) : Bool := !(x == c)
abbrev Ver := List UInt8 × List UInt8 × List UInt8
/-- Version and release; an absent epoch is 0. -/
def tail (e l : List UInt8) : Ver := (if e = [] then [48] else e, l.takeWhile (notC 45), l.dropWhile (notC 45))
def parse (l : List UInt8) : Ver :=
  if l.any (fun x => x == 58) && (l.takeWhile (notC 58)).all Rpm.dig then tail (l.takeWhile (notC 58)) (l.dropWhile (notC 58)).tail else tail [] l
def vc (a b : Ver) : Int := if Rpm.parts a.1 b.1 = 0 then (if Rpm.parts a.2.1 b.2.1 = 0 then Rpm.parts a.2.2 b.2.2 else Rpm.parts a.2.1 b.2.1) else Rpm.parts a.1 b.1
theorem vc_cmp : Cmp vc := Cmp.then_ (Rpm.parts_cmp.key (fun t : Ver => t.1)) (Cmp.then_ (Rpm.parts_cmp.key (fun t : Ver => t.2.1)) (Rpm.parts_cmp.key (fun t : Ver => t.2.2)))
def cmp (a b : List UInt8) : Int := vc (parse a) (parse b)
theorem cmp_cmp : Cmp cmp := vc_cmp.key parse
theorem tw_le (p : UInt8 → Bool) (l : List UInt8) : (l.takeWhile p).length ≤ l.length := List.Sublist.length_le (List.takeWhile_sublist _)
theorem dw_le (p : UInt8 → Bool) (l : List UInt8) : (l.dropWhile p).length ≤ l.length := List.Sublist.length_le (List.dropWhile_sublist _)
theorem parse_len (l : List UInt8) : (parse l).1.length ≤ l.length + 1 ∧ (parse l).2.1.length ≤ l.length ∧ (parse l).2.2.length ≤ l.length := by
  have a := tw_le (notC 58) l
  have b := dw_le (notC 58) l
  have t : ((l.dropWhile (notC 58)).tail).length ≤ l.length := by rw [List.length_tail]; omega
  have c := tw_le (notC 45) (l.dropWhile (notC 58)).tail
  have d := dw_le (notC 45) (l.dropWhile (notC 58)).tail
  have e := tw_le (notC 45) l
  have f := dw_le (notC 45) l
  unfold parse tail
  split
  · refine ⟨?_, by show (List.takeWhile _ _).length ≤ _; omega, by show (List.dropWhile _ _).length ≤ _; omega⟩
    show (if l.takeWhile (notC 58) = [] then [48] else l.takeWhile (notC 58) : List UInt8).length ≤ _
    split
    · simp
    · omega
  · refine ⟨?_, e, f⟩
    show (if ([] : List UInt8) = [] then [48] else [] : List UInt8).length ≤ _
    simp
/-- What stands ahead of the first c. -/
theorem tw_first {c : UInt8} : ∀ (a b : List UInt8), a.all (notC c) = true → (a ++ c :: b).takeWhile (notC c) = a ∧ (a ++ c :: b).dropWhile (notC c) = c :: b
  | [], b, _ => by simp [notC]
  | x :: a, b, h => by
    rw [List.all_cons, Bool.and_eq_true] at h
    have ih := tw_first a b h.2
    rw [List.cons_append, List.takeWhile_cons_of_pos h.1, List.dropWhile_cons_of_pos h.1, ih.1, ih.2]
    exact ⟨rfl, rfl⟩
/-- An epoch of digits, a version without a hyphen, a release. -/
theorem parse_joined (e v p : List UInt8) (he : e ≠ []) (hd : e.all Rpm.dig = true) (hv : v.all (notC 45) = true) : parse (e ++ 58 :: (v ++ 45 :: p)) = (e, v, 45 :: p) := by
  have h58 : e.all (notC 58) = true := by
    rw [List.all_eq_true] at hd ⊢
    intro x hx
    have := hd x hx
    unfold Rpm.dig at this
    simp at this
    unfold notC
    have : x ≠ 58 := fun h => by rw [h] at this; simp at this
    simp [this]
  obtain ⟨t1, t2⟩ := tw_first e (v ++ 45 :: p) h58
  obtain ⟨t3, t4⟩ := tw_first v p hv
  unfold parse
  rw [t1, t2, hd]
  rw [show (e ++ 58 :: (v ++ 45 :: p)).any (fun x => x == 58) = true by simp]
  simp only [Bool.and_self, if_true, List.tail_cons]
  unfold tail
  rw [t3, t4, if_neg he]
end Go.Proofs.YtehlakaccgccbaaDoor.Red
