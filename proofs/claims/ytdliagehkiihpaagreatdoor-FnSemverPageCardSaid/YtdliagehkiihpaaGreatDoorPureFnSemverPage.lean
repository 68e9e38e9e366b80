/- The statement FnSemverPage: versions as SemVer writes them compare by its precedence, for all texts.
   No condition beyond those that the statement itself states (its card ties the listed variables to the program's text). -/
import Derived.Test.YtdliagehkiihpaaGreatDoorZUR
import Derived.Test.YtdliagehkiihpaaGreatDoorZUN
import Derived.Test.YtdliagehkiihpaaGreatDoorZV
namespace Go.Proofs.YtdliagehkiihpaaGreatDoor.Pure
open Go.RowKit Go.Proofs.YtdliagehkiihpaaGreatDoor.QU Go.Proofs.YtdliagehkiihpaaGreatDoorW.PrintWords Go.Proofs.YtdliagehkiihpaaGreatDoorW.PrintLast Go.Proofs.YtdliagehkiihpaaGreatDoor.Pk Go.Proofs.YtdliagehkiihpaaGreatDoor.Giv Go.Proofs.YtdliagehkiihpaaGreatDoor.Ord
theorem be_mag (n : Nat) : Dg.be (Lb.mag n) = n := Lb.mag_inj (Lb.mag_be (Lb.mag n).length (Lb.mag n) rfl (Lb.mag_head n))
theorem zn_pn (zs : List Int) : zn (pn zs) = zs := by
  unfold zn pn
  rw [List.map_map]
  conv => rhs; rw [← List.map_id zs]
  refine List.map_congr_left (fun z _ => ?_)
  show (if decide (z < 0) = true then -((Dg.be (bs (Lb.mag z.natAbs)).toList : Nat) : Int) else ((Dg.be (bs (Lb.mag z.natAbs)).toList : Nat) : Int)) = z
  rw [bs_toList, be_mag]
  by_cases h : z < 0
  · rw [if_pos (decide_eq_true h)]
    omega
  · rw [if_neg (by simp [h])]
    omega
theorem page_small {s : ByteArray} {x p : List ByteArray} {m : ByteArray} (h : Page s x p m) (hs : s.size ≤ 1500) : small (pn (nz s)) = true := by
  unfold small
  rw [Bool.and_eq_true]
  refine ⟨decide_eq_true (by unfold pn; rw [List.length_map, (page_nums h).2.1]; decide), ?_⟩
  rw [List.all_eq_true]
  intro y hy
  unfold pn at hy
  obtain ⟨z, hz, rfl⟩ := List.mem_map.1 hy
  unfold nz at hz
  obtain ⟨q, hq, rfl⟩ := List.mem_map.1 hz
  have dq := (page_nums h).1 q hq
  unfold Num.digits at dq
  rw [Bool.and_eq_true] at dq
  have l1 := Num.dec_lt q dq.2
  have l2 := Lb.lb_len (Num.dec q) q.length l1
  have l3 : q.length ≤ 1500 := by
    have i0 := (Cut.cutAt_sizes 46 (Slk.core3 s.toList)).2 q hq
    have i1 : (Slk.core3 s.toList).length ≤ (Cut.upTo 43 s.toList).length := List.Sublist.length_le (List.takeWhile_sublist _)
    have i2 : (Cut.upTo 43 s.toList).length ≤ s.toList.length := List.Sublist.length_le (List.takeWhile_sublist _)
    rw [len_toList] at i2
    omega
  refine decide_eq_true ?_
  show (bs (Lb.mag ((Num.dec q : Int)).natAbs)).size ≤ 100000
  rw [bs_size, Int.natAbs_natCast]
  unfold Lb.mag
  rw [List.length_map, List.length_reverse]
  omega
theorem FnSemverPage : laws_FnSemverPage.Pure := by
  intro a b _ _
  suffices h : Ev (fun k => laws_FnSemverPage.f k a b) true from h.rounds
  have out : Ev (fun k => laws_FnSemverPage.j0 k a b true) true := by
    refine Ev.step (fun k => by rw [laws_FnSemverPage.j0]) ?_
    exact ev_pos rfl (Ev.now _)
  have main : Ev (fun k => laws_FnSemverPage.j0 k a b false) true := by
    refine Ev.step (fun k => by rw [laws_FnSemverPage.j0]) ?_
    refine ev_neg (by simp) ((short_ev [a, b] (by simp)).bind ?_)
    cases sh : shortB [a, b] with
    | false => exact ev_neg (by simp) (Ev.now _)
    | true =>
    have z := short_sizes sh
    have za := z a (by simp)
    have zb := z b (by simp)
    obtain ⟨r, ok, h1, h2⟩ := prec_ev a b za zb
    refine ev_pos rfl (h1.bind ?_)
    cases ok with
    | false => exact ev_neg (by simp) (Ev.now _)
    | true =>
      obtain ⟨e1, e2, e3, ⟨x, p, m, pa⟩, y, q, n, pb⟩ := h2 rfl
      have im : Giv.impl_SemverCompareText.f a b = some (smT a b, true) := by
        unfold Giv.impl_SemverCompareText.f
        rw [e2, e3, Bool.and_self, if_pos rfl]
      have lp : ∀ {s : ByteArray} {x p : List ByteArray} {m : ByteArray}, s.size ≤ 1500 → Page s x p m → Giv.impl_LikeParse.f s = some (Slk.lead s.toList, pn (nz s), bs (rs s), s) := fun {s x p m} hs h => by
        unfold Giv.impl_LikeParse.f
        rw [if_pos (by omega), Slk.parseR_asc s (page_asc h), page_parse h]
      have rl : ∀ s : ByteArray, s.size ≤ 1500 → (bs (rs s)).size ≤ 40000 := fun s hs => by
        rw [bs_size]
        unfold rs
        rw [List.length_drop, len_toList]
        omega
      have sc : Giv.impl_SemverCompare.f (Slk.lead a.toList) (pn (nz a)) (bs (rs a)) a (Slk.lead b.toList) (pn (nz b)) (bs (rs b)) b = some (smT a b, true) := by
        unfold Giv.impl_SemverCompare.f
        rw [page_small pa za, page_small pb zb, decide_eq_true (rl a za), decide_eq_true (rl b zb), if_pos (by decide), zn_pn, zn_pn, bs_toList, bs_toList]
        unfold smT
        rw [page_parse pa, page_parse pb]
      refine ev_pos rfl ?_
      rw [im, lp za pa, lp zb pb]
      refine ev_some (ev_some (ev_some ?_))
      dsimp only
      rw [sc]
      refine ev_some (ev_pos rfl (ev_pos rfl (ev_pos e1.symm ?_)))
      show Ev (fun _ => some (smT a b == r)) true
      rw [e1, beq_self_eq_true]
      exact Ev.now _
  unfold laws_FnSemverPage.f
  by_cases ha : (a.size : Int) > 2147483647
  · exact ev_pos ha out
  refine ev_neg ha ?_
  cases decide ((b.size : Int) > 2147483647) with
  | true => exact out
  | false => exact main
end Go.Proofs.YtdliagehkiihpaaGreatDoor.Pure
