/- The parse of Red Hat versions, printed in these texts, as the plain one. -/
import Derived.Test.YtojabknjniihmabDoorPmk
import Derived.Test.YtojabknjniihmabDoorRed
import Derived.Test.YtojabknjniihmabDoorQEx
import Derived.Test.YtojabknjniihmabDoorEPcut
namespace Go.Proofs.YtojabknjniihmabDoor.QE
open Go.RowKit Go.Proofs.YtojabknjniihmabDoorW.PrintWords Go.Proofs.YtojabknjniihmabDoorW.PrintLast Go.Proofs.YtojabknjniihmabDoor.Pk Go.Proofs.YtojabknjniihmabDoor.Giv Go.Proofs.YtojabknjniihmabDoor.Ord
set_option linter.unusedVariables false
set_option linter.unusedSimpArgs false

theorem dw_nil {p : UInt8 → Bool} : ∀ {l : List UInt8}, l.dropWhile p = [] ↔ ∀ x ∈ l, p x = true
  | [] => by simp
  | x :: l => by
    by_cases h : p x = true
    · rw [List.dropWhile_cons_of_pos h, dw_nil]
      simp [h]
    · rw [List.dropWhile_cons_of_neg h]
      simp [h]
theorem place_tw (c : UInt8) : ∀ l : List UInt8, l.findIdx (fun x => x == c) = (l.takeWhile (Red.notC c)).length
  | [] => rfl
  | x :: l => by
    rw [List.findIdx_cons]
    by_cases h : x = c
    · simp [h, Red.notC]
    · have hb : (x == c) = false := by simpa using h
      rw [hb, List.takeWhile_cons_of_pos (by simp [Red.notC, hb]), List.length_cons, place_tw c l]
      simp
/-- A text cut at the first c. -/
theorem cut_ev (c : UInt8) (l : List UInt8) (hl : l.length < 4611686018427387904) : Ev (fun k => semantic_zzCut.f k (bs l) ⟨#[c]⟩) (if l.any (fun x => x == c) then (bs (l.takeWhile (Red.notC c)), bs (l.dropWhile (Red.notC c)).tail, true) else (bs l, ⟨#[]⟩, false)) := by
  by_cases h : l.any (fun x => x == c) = true
  · rw [if_pos h]
    have e : placeOf (fun x => x == c) (bs l).toList = ((l.takeWhile (Red.notC c)).length : Int) := by
      rw [bs_toList]
      unfold placeOf
      rw [if_pos h, place_tw]
    have hlt : (l.takeWhile (Red.notC c)).length < (bs l).size := by
      rw [bs_size, ← place_tw, List.findIdx_lt_length]
      simpa using h
    have z := zzCut_yes (bs l) c (by rw [bs_size]; exact hl) _ hlt e
    rw [bs_extHead, bs_extAll, take_tw, ← List.drop_drop, drop_tw, List.drop_one] at z
    exact z
  · rw [if_neg h]
    refine zzCut_no (bs l) c (by rw [bs_size]; exact hl) ?_
    rw [bs_toList]
    unfold placeOf
    rw [if_neg h]
theorem parse_tail (e l : List UInt8) (hl : l.length < 4611686018427387904) : Ev (fun k => semantic_ParseRedHatVersion.j1 k (bs e) (bs l)) (bs (Red.tail e l).1, bs (Red.tail e l).2.1, bs (Red.tail e l).2.2) := by
  refine Ev.step (fun k => by rw [semantic_ParseRedHatVersion.j1]) ?_
  refine (cut_ev 45 l hl).bind ?_
  rw [bs_toList]
  by_cases h : l.any (fun x => x == 45) = true
  · rw [if_pos h]
    have hd : l.dropWhile (Red.notC 45) = 45 :: (l.dropWhile (Red.notC 45)).tail := by
      cases hc : l.dropWhile (Red.notC 45) with
      | nil =>
        rw [dw_nil] at hc
        rw [List.any_eq_true] at h
        obtain ⟨x, hx, hx'⟩ := h
        have := hc x hx
        unfold Red.notC at this
        rw [hx'] at this
        simp at this
      | cons x r =>
        have := List.head_dropWhile_not (p := Red.notC 45) (l := l) (by rw [hc]; simp)
        simp only [hc, List.head_cons] at this
        unfold Red.notC at this
        have hx : x = 45 := by simpa using this
        rw [hx]
        rfl
    have t := Red.dw_le (Red.notC 45) l
    refine ev_pos rfl (ev_pos (by rw [bs_size, List.length_tail]; omega) ?_)
    have er : (⟨#[45]⟩ : ByteArray) ++ bs (l.dropWhile (Red.notC 45)).tail = bs (l.dropWhile (Red.notC 45)) := by
      show bs [45] ++ _ = _
      rw [bs_append]
      congr 1
      exact hd.symm
    rw [er]
    unfold Red.tail
    by_cases he : e = []
    · refine ev_pos he ?_
      rw [if_pos he]
      exact Ev.now _
    · refine ev_neg he ?_
      rw [if_neg he]
      exact Ev.now _
  · rw [if_neg h]
    refine ev_neg (by simp) ?_
    have hall : ∀ x ∈ l, Red.notC 45 x = true := by
      intro x hx
      have h' : l.any (fun x => x == 45) = false := Bool.eq_false_iff.2 h
      rw [List.any_eq_false] at h'
      unfold Red.notC
      simpa using h' x hx
    have t1 : l.takeWhile (Red.notC 45) = l := by
      conv => rhs; rw [← List.takeWhile_append_dropWhile (p := Red.notC 45) (l := l), dw_nil.2 hall, List.append_nil]
    have t2 : l.dropWhile (Red.notC 45) = [] := dw_nil.2 hall
    unfold Red.tail
    rw [t1, t2]
    by_cases he : e = []
    · refine ev_pos he ?_
      rw [if_pos he]
      exact Ev.now _
    · refine ev_neg he ?_
      rw [if_neg he]
      exact Ev.now _
theorem parse_ev (l : List UInt8) (hl : l.length ≤ 140737488351232) : Ev (fun k => semantic_ParseRedHatVersion.f k (bs l)) (bs (Red.parse l).1, bs (Red.parse l).2.1, bs (Red.parse l).2.2) := by
  unfold semantic_ParseRedHatVersion.f
  refine (cut_ev 58 l (by omega)).bind ?_
  have a := Red.tw_le (Red.notC 58) l
  have b := Red.dw_le (Red.notC 58) l
  unfold Red.parse
  by_cases h : l.any (fun x => x == 58) = true
  · rw [if_pos h, h, Bool.true_and]
    refine ev_pos rfl ?_
    unfold Giv.semantic_isOnlyDigits.f onlyDigits
    rw [if_pos (by rw [bs_size]; omega), bs_toList]
    refine ev_some ?_
    refine Ev.step (fun k => by rw [semantic_ParseRedHatVersion.j0]) ?_
    by_cases hd : (l.takeWhile (Red.notC 58)).all Rpm.dig = true
    · rw [if_pos hd]
      refine ev_neg (by simp [hd]) ?_
      exact parse_tail _ _ (by rw [List.length_tail]; omega)
    · rw [if_neg hd]
      refine ev_pos (by simpa using hd) ?_
      exact parse_tail [] l (by omega)
  · have h' : l.any (fun x => x == 58) = false := Bool.eq_false_iff.2 h
    rw [if_neg h, h', Bool.false_and, if_neg (by simp)]
    refine ev_neg (by simp) ?_
    refine Ev.step (fun k => by rw [semantic_ParseRedHatVersion.j0]) ?_
    refine ev_pos rfl ?_
    exact parse_tail [] l (by omega)
theorem implParse_ev (l : List UInt8) (hl : l.length ≤ 140737488351232) : Ev (fun k => impl_RedHatParse.f k (bs l)) (bs (Red.parse l).1, bs (Red.parse l).2.1, bs (Red.parse l).2.2) := by
  unfold impl_RedHatParse.f
  refine (parse_ev l hl).bind ?_
  unfold semantic_ZZRedHatTold.f
  exact Ev.now _
end Go.Proofs.YtojabknjniihmabDoor.QE
