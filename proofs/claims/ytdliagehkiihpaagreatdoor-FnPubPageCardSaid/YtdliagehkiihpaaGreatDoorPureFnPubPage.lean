/- The statement FnPubPage: versions as Pub writes them compare by SemVer's precedence, and where that is equal the one without a build comes first, for all texts.
   No condition beyond those that the statement itself states (its card ties the listed variables to the program's text). -/
import Derived.Test.YtdliagehkiihpaaGreatDoorZGR
import Derived.Test.YtdliagehkiihpaaGreatDoorZCX
namespace Go.Proofs.YtdliagehkiihpaaGreatDoor.Pure
open Go.RowKit Go.Proofs.YtdliagehkiihpaaGreatDoor.QG Go.Proofs.YtdliagehkiihpaaGreatDoorW.PrintWords Go.Proofs.YtdliagehkiihpaaGreatDoorW.PrintLast Go.Proofs.YtdliagehkiihpaaGreatDoor.Pk Go.Proofs.YtdliagehkiihpaaGreatDoor.Giv Go.Proofs.YtdliagehkiihpaaGreatDoor.Ord
theorem meta_page {s : ByteArray} {x p : List ByteArray} {m : ByteArray} (h : Page s x p m) : meta43 (rs s) = m.toList := by
  rw [h.em]
  exact Slk.page_behind s.toList
theorem cS_nil (x y : List UInt8) (h : x = [] ∨ y = []) : cS x y = cI (if x.length = 0 then 0 else 1 : Int) (if y.length = 0 then 0 else 1 : Int) := by
  cases x with
  | nil =>
    cases y with
    | nil => rfl
    | cons c r => rfl
  | cons c r =>
    cases y with
    | nil => rfl
    | cons d q => rcases h with h | h <;> exact absurd h (by simp)
theorem build_ev (a b : ByteArray) (ha : a.size ≤ 1500) (hb : b.size ≤ 1500) : ∃ (r : Int) (ok : Bool), Ev (fun k => spec_BuildOrder.f k a b) (r, ok) ∧ (ok = true → r = cS (meta43 (rs a)) (meta43 (rs b))) := by
  obtain ⟨ra, a1, a2⟩ := core_ev a ha
  obtain ⟨rb, b1, b2⟩ := core_ev b hb
  obtain ⟨xs, p, m, oa⟩ := ra
  obtain ⟨ys, q, n, ob⟩ := rb
  dsimp only at a2 b2
  have em : ∀ z : ByteArray, z.toList.length = z.size := len_toList
  cases oa with
  | false =>
    refine ⟨0, false, ?_, fun e => absurd e (by decide)⟩
    unfold spec_BuildOrder.f
    exact a1.bind (b1.bind (ev_neg (by simp) (Ev.now _)))
  | true =>
    cases ob with
    | false =>
      refine ⟨0, false, ?_, fun e => absurd e (by decide)⟩
      unfold spec_BuildOrder.f
      exact a1.bind (b1.bind (ev_pos rfl (ev_neg (by simp) (Ev.now _))))
    | true =>
      have pa := meta_page (a2 rfl)
      have pb := meta_page (b2 rfl)
      have key : (m.toList = [] ∨ n.toList = []) → cI (mn (m.size : Int) 1) (mn (n.size : Int) 1) = cS (meta43 (rs a)) (meta43 (rs b)) := fun h => by
        rw [pa, pb, cS_nil _ _ h, mn_one, mn_one, em, em]
      by_cases h1 : m.toList = []
      · refine ⟨_, true, ?_, fun _ => key (.inl h1)⟩
        unfold spec_BuildOrder.f
        refine a1.bind (b1.bind (ev_pos rfl (ev_pos rfl (ev_pos h1 ?_))))
        dsimp only
        rw [ordI_f]
        exact ev_some (Ev.now _)
      · by_cases h2 : n.toList = []
        · refine ⟨_, true, ?_, fun _ => key (.inr h2)⟩
          unfold spec_BuildOrder.f
          refine a1.bind (b1.bind (ev_pos rfl (ev_pos rfl (ev_neg h1 (ev_pos h2 ?_)))))
          dsimp only
          rw [ordI_f]
          exact ev_some (Ev.now _)
        · refine ⟨0, false, ?_, fun e => absurd e (by decide)⟩
          unfold spec_BuildOrder.f
          exact a1.bind (b1.bind (ev_pos rfl (ev_pos rfl (ev_neg h1 (ev_neg h2 (Ev.now _))))))
theorem FnPubPage : laws_FnPubPage.Pure := by
  intro a b _ _
  suffices h : Ev (fun k => laws_FnPubPage.f k a b) true from h.rounds
  have out : Ev (fun k => laws_FnPubPage.j0 k a b true) true := by
    refine Ev.step (fun k => by rw [laws_FnPubPage.j0]) ?_
    exact ev_pos rfl (Ev.now _)
  have main : Ev (fun k => laws_FnPubPage.j0 k a b false) true := by
    refine Ev.step (fun k => by rw [laws_FnPubPage.j0]) ?_
    refine ev_neg (by simp) ((short_ev [a, b] (by simp)).bind ?_)
    cases sh : shortB [a, b] with
    | false => exact ev_neg (by simp) (Ev.now _)
    | true =>
    have z := short_sizes sh
    have za := z a (by simp)
    have zb := z b (by simp)
    obtain ⟨r, ok, h1, h2⟩ := prec_ev a b za zb
    refine ev_pos rfl (h1.bind ?_)
    cases ok with
    | false =>
      refine ev_neg (by simp) ?_
      refine Ev.step (fun k => by rw [laws_FnPubPage.j1]) ?_
      exact ev_neg (by simp) (ev_neg (by simp) (Ev.now _))
    | true =>
      obtain ⟨e1, e2, e3, ⟨x, p, m, pa⟩, y, q, n, pb⟩ := h2 rfl
      have im : Giv.impl_PubCompareText.f a b = some (pbT a b, true) := by
        unfold Giv.impl_PubCompareText.f
        rw [e2, e3, Bool.and_self, if_pos rfl]
      have sm : smT a b = if padL cI 0 (nz a) (nz b) = 0 then Cut.buildC (rs a) (rs b) else padL cI 0 (nz a) (nz b) := by
        unfold smT smC
        rw [page_parse pa, page_parse pb]
      have pbm : pbT a b = if padL cI 0 (nz a) (nz b) = 0 then (if Cut.buildC (rs a) (rs b) = 0 then cS (meta43 (rs a)) (meta43 (rs b)) else Cut.buildC (rs a) (rs b)) else padL cI 0 (nz a) (nz b) := by
        unfold pbT pbC
        rw [page_parse pa, page_parse pb]
      rw [sm] at e1
      clear sm
      refine ev_pos rfl ?_
      by_cases hr : r = 0
      · have eb : (r == 0) = true := beq_iff_eq.2 hr
        have ev : pbT a b = cS (meta43 (rs a)) (meta43 (rs b)) := by
          rw [pbm]
          by_cases hp : padL cI 0 (nz a) (nz b) = 0
          · rw [if_pos hp] at e1 ⊢
            rw [if_pos (e1.symm.trans hr)]
          · rw [if_neg hp] at e1
            exact absurd (e1.symm.trans hr) hp
        obtain ⟨r', ok', g1, g2⟩ := build_ev a b za zb
        refine Ev.step (fun k => by rw [laws_FnPubPage.j1, im]) ?_
        refine ev_pos eb (g1.bind ?_)
        cases ok' with
        | false => exact ev_neg (by simp) (Ev.now _)
        | true =>
          refine ev_pos rfl (ev_some (ev_pos rfl ?_))
          show Ev (fun _ => some (pbT a b == r')) true
          rw [ev, g2 rfl, beq_self_eq_true]
          exact Ev.now _
      · have eb : (r == 0) = false := beq_eq_false_iff_ne.2 hr
        have ev : pbT a b = r := by
          rw [pbm]
          by_cases hp : padL cI 0 (nz a) (nz b) = 0
          · rw [if_pos hp] at e1 ⊢
            rw [if_neg (fun e => hr (e1.trans e)), e1]
          · rw [if_neg hp] at e1 ⊢
            exact e1.symm
        refine Ev.step (fun k => by rw [laws_FnPubPage.j1, im]) ?_
        refine ev_neg (by rw [eb]; simp) (ev_pos rfl (ev_some (ev_pos rfl ?_)))
        show Ev (fun _ => some (pbT a b == r)) true
        rw [ev, beq_self_eq_true]
        exact Ev.now _
  unfold laws_FnPubPage.f
  by_cases ha : (a.size : Int) > 2147483647
  · exact ev_pos ha out
  refine ev_neg ha ?_
  cases decide ((b.size : Int) > 2147483647) with
  | true => exact out
  | false => exact main
end Go.Proofs.YtdliagehkiihpaaGreatDoor.Pure
