/- The statement FnSemverPre: pre-releases of one version compare as their identifiers do, and those of a smaller version are smaller than all of a greater one, for all texts.
   No condition beyond those that the statement itself states (its card ties the listed variables to the program's text). -/
import Derived.Test.YtdliagehkiihpaaGreatDoorZPP
namespace Go.Proofs.YtdliagehkiihpaaGreatDoor.Pure
open Go.RowKit Go.Proofs.YtdliagehkiihpaaGreatDoor.QP Go.Proofs.YtdliagehkiihpaaGreatDoorW.PrintWords Go.Proofs.YtdliagehkiihpaaGreatDoorW.PrintLast Go.Proofs.YtdliagehkiihpaaGreatDoor.Pk Go.Proofs.YtdliagehkiihpaaGreatDoor.Giv Go.Proofs.YtdliagehkiihpaaGreatDoor.Ord
theorem FnSemverPre : laws_FnSemverPre.Pure := by
  intro a b x y _ _ _ _
  suffices h : Ev (fun k => laws_FnSemverPre.f k a b x y) true from h.rounds
  have out : Ev (fun k => laws_FnSemverPre.j0 k a b x y true) true := by
    refine Ev.step (fun k => by rw [laws_FnSemverPre.j0]) ?_
    exact ev_pos rfl (Ev.now _)
  have out1 : Ev (fun k => laws_FnSemverPre.j1 k a b x y true) true := by
    refine Ev.step (fun k => by rw [laws_FnSemverPre.j1]) ?_
    exact ev_pos rfl (Ev.now _)
  have main : Ev (fun k => laws_FnSemverPre.j0 k a b x y false) true := by
    refine Ev.step (fun k => by rw [laws_FnSemverPre.j0]) ?_
    refine ev_neg (by simp) ((short_ev [a, b, x, y] (by simp)).bind ?_)
    cases sh : shortB [a, b, x, y] with
    | false => exact ev_neg (by simp) out1
    | true =>
    have z := short_sizes sh
    have za := z a (by simp)
    have zb := z b (by simp)
    have zx := z x (by simp)
    have zy := z y (by simp)
    refine ev_pos rfl ((numbered_ev a 3 (by omega)).bind ?_)
    cases na : Slk.nmb 3 a.toList 1 true with
    | false => exact ev_neg (by simp) out1
    | true =>
    refine ev_pos rfl ((numbered_ev b 3 (by omega)).bind ?_)
    cases nb : Slk.nmb 3 b.toList 1 true with
    | false => exact ev_neg (by simp) out1
    | true =>
    refine ev_pos rfl ((dotted_ev x (by omega)).bind ?_)
    cases dx : Slk.dtd x.toList true with
    | false => exact ev_neg (by simp) out1
    | true =>
    refine ev_pos rfl ((dotted_ev y (by omega)).bind ?_)
    cases dy : Slk.dtd y.toList true with
    | false => exact out1
    | true =>
    obtain ⟨zs, lz, pa, pax⟩ := Slk.parse_nmb na
    obtain ⟨ys, ly, pb, pby⟩ := Slk.parse_nmb nb
    have asa := Slk.nmb_asc 3 a.toList 1 true na
    have asb := Slk.nmb_asc 3 b.toList 1 true nb
    have asx := Slk.dtd_asc dx
    have asy := Slk.dtd_asc dy
    have cat : ∀ s t : ByteArray, ((s ++ (⟨#[45]⟩ : ByteArray)) ++ t).toList = s.toList ++ 45 :: t.toList := fun s t => by
      rw [append_toList, append_toList, List.append_assoc, show (⟨#[45]⟩ : ByteArray).toList = [45] from lit_toList [45]]
      rfl
    have siz : ∀ s t : ByteArray, ((s ++ (⟨#[45]⟩ : ByteArray)) ++ t).size = s.size + 1 + t.size := fun s t => by
      rw [← len_toList, cat, List.length_append, List.length_cons, len_toList, len_toList]
      omega
    have siz1 : ∀ s : ByteArray, (s ++ (⟨#[45]⟩ : ByteArray)).size = s.size + 1 := fun s => by
      rw [← len_toList, append_toList, List.length_append, len_toList, len_toList]
      rfl
    have ok : ∀ (s t : ByteArray) (qs : List Int), s.size ≤ 1500 → t.size ≤ 1500 → (∀ c ∈ s.toList, c.toNat < 128) → (∀ c ∈ t.toList, c.toNat < 128 ∧ c ≠ 43 ∧ c ≠ 45) → qs.length ≤ 3 → Slk.parse (s.toList ++ 45 :: t.toList) = (qs, 45 :: t.toList) → okT ((s ++ (⟨#[45]⟩ : ByteArray)) ++ t) = true := fun s t qs h1 h2 h3 h4 h5 h6 =>
      okT_of (by rw [siz]; omega) (by
        rw [cat]
        intro c hc
        rcases List.mem_append.1 hc with hc | hc
        · exact h3 c hc
        · rcases List.mem_cons.1 hc with e | hc
          · rw [e]; decide
          · exact (h4 c hc).1) (by rw [cat, h6]; exact h5)
    have oka : okT a = true := okT_of (by omega) asa (by rw [pa]; exact lz)
    have okb : okT b = true := okT_of (by omega) asb (by rw [pb]; exact ly)
    have okax := ok a x zs za zx asa asx lz (pax x.toList)
    have okay := ok a y zs za zy asa asy lz (pax y.toList)
    have okby := ok b y ys zb zy asb asy ly (pby y.toList)
    have bld : Cut.buildC (45 :: x.toList) (45 :: y.toList) = lexL Seg.idC (Cut.cutAt 46 x.toList) (Cut.cutAt 46 y.toList) := Slk.build_pre (fun c hc => (asx c hc).2.1) (fun c hc => (asy c hc).2.1) (Slk.dtd_ne dx) (Slk.dtd_ne dy)
    have self : padL cI 0 zs zs = 0 := by
      have := (padL_cmp cI_cmp 0).flip zs zs
      omega
    have t1 : Giv.impl_SemverCompareText.f ((a ++ (⟨#[45]⟩ : ByteArray)) ++ x) ((a ++ (⟨#[45]⟩ : ByteArray)) ++ y) = some (lexL Seg.idC (Cut.cutAt 46 x.toList) (Cut.cutAt 46 y.toList), true) := by
      unfold Giv.impl_SemverCompareText.f
      rw [okax, okay, Bool.and_self, if_pos rfl]
      unfold smT smC
      rw [cat, cat, pax, pax, self, if_pos rfl, bld]
    have t2 : Giv.impl_SemverCompareText.f a b = some (padL cI 0 zs ys, true) := by
      unfold Giv.impl_SemverCompareText.f
      rw [oka, okb, Bool.and_self, if_pos rfl]
      unfold smT smC
      rw [pa, pb]
      by_cases h : padL cI 0 zs ys = 0
      · rw [if_pos h, Slk.build_nil, h]
      · rw [if_neg h]
    have t3 : Giv.impl_SemverCompareText.f ((a ++ (⟨#[45]⟩ : ByteArray)) ++ x) ((b ++ (⟨#[45]⟩ : ByteArray)) ++ y) = some (if padL cI 0 zs ys = 0 then lexL Seg.idC (Cut.cutAt 46 x.toList) (Cut.cutAt 46 y.toList) else padL cI 0 zs ys, true) := by
      unfold Giv.impl_SemverCompareText.f
      rw [okax, okby, Bool.and_self, if_pos rfl]
      unfold smT smC
      rw [cat, cat, pax, pby, bld]
    have t4 : impl_Identifiers.f ((Cut.cutAt 46 x.toList).map bs) ((Cut.cutAt 46 y.toList).map bs) = some (lexL Seg.idC (Cut.cutAt 46 x.toList) (Cut.cutAt 46 y.toList)) := by
      unfold impl_Identifiers.f semantic_ZZIdentifiers.f Giv.semantic_compareSemverBuildComponents.f
      rw [if_pos ⟨fit_cut x (by omega), fit_cut y (by omega)⟩, tl_bs, tl_bs]
      rfl
    obtain ⟨v, hv⟩ : ∃ v, v = if padL cI 0 zs ys = 0 then lexL Seg.idC (Cut.cutAt 46 x.toList) (Cut.cutAt 46 y.toList) else padL cI 0 zs ys := ⟨_, rfl⟩
    rw [← hv] at t3
    refine Ev.step (fun k => by rw [laws_FnSemverPre.j1, t1, t2, t3]) ?_
    refine ev_neg (by simp) ((points_ev x (by omega)).bind ((points_ev y (by omega)).bind ?_))
    rw [t4]
    refine ev_pos (by omega) (ev_pos (by rw [siz1]; omega) (ev_pos (by rw [siz1]; omega) (ev_some (ev_some (ev_pos (by omega) (ev_pos (by rw [siz1]; omega) (ev_some ?_)))))))
    generalize lexL Seg.idC (Cut.cutAt 46 x.toList) (Cut.cutAt 46 y.toList) = r at *
    generalize padL cI 0 zs ys = p at *
    by_cases h : p = 0
    · rw [if_pos h] at hv
      subst hv
      refine ev_pos h (ev_pos rfl (ev_pos rfl (ev_pos rfl (ev_some (ev_pos rfl ?_)))))
      show Ev (fun _ => some (v == v)) true
      rw [beq_self_eq_true]
      exact Ev.now _
    · rw [if_neg h] at hv
      subst hv
      refine ev_neg h (ev_pos rfl (ev_pos rfl (ev_pos rfl (ev_some (ev_pos rfl ?_)))))
      show Ev (fun _ => some (v == v)) true
      rw [beq_self_eq_true]
      exact Ev.now _
  unfold laws_FnSemverPre.f
  by_cases ha : (a.size : Int) > 2147483647
  · exact ev_pos ha out
  refine ev_neg ha ?_
  by_cases hb : (b.size : Int) > 2147483647
  · exact ev_pos hb out
  refine ev_neg hb ?_
  by_cases hx : (x.size : Int) > 2147483647
  · exact ev_pos hx out
  refine ev_neg hx ?_
  cases decide ((y.size : Int) > 2147483647) with
  | true => exact out
  | false => exact main
end Go.Proofs.YtdliagehkiihpaaGreatDoor.Pure
