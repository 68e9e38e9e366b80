/- The statement FnRedHatParse: a Red Hat version falls into epoch, version and release as the reference says, for every text.
   No condition beyond those that the statement itself states. -/
import Derived.Test.YtojabknjniihmaaAPshort
import Derived.Test.YtojabknjniihmaaAPdig
import Derived.Test.YtojabknjniihmaaAPidx
import Derived.Test.YtojabknjniihmaaAPcut
namespace Go.Proofs.Ytojabknjniihmaa.QA
open Go.RowKit Go.Proofs.YtojabknjniihmaaW.PrintWords Go.Proofs.YtojabknjniihmaaW.PrintLast Go.Proofs.Ytojabknjniihmaa.Pk Go.Proofs.Ytojabknjniihmaa.Giv
set_option linter.unusedVariables false

/-- The part behind the epoch: version and release. -/
theorem tail_both (s : ByteArray) (hs : s.size ≤ 1500) (x3 : ByteArray) (ep : ByteArray) (hep : ep.toList = if x3.toList = [] then [48] else x3.toList) :
    ∃ v r v' r' : ByteArray, v.toList = v'.toList ∧ r.toList = r'.toList ∧
      (∃ e : ByteArray, e.toList = ep.toList ∧ Ev (fun k => semantic_ParseRedHatVersion.j1 k x3 s) (e, v, r)) ∧
      ∀ g : Nat → Int → Option (ByteArray × ByteArray × ByteArray), (∀ k, g k (-1) = some (ep, s, ⟨#[]⟩)) → (∀ (k i : Nat), i < s.size → g k (i : Int) = some (ep, s.extract 0 i, s.extract i s.size)) → Ev (fun k => (spec_indexOf.f k s 45).bind (g k)) (ep, v', r') := by
  have ix := indexOf_ev s 45 (by omega)
  rcases placeOf_range (fun x => x == (45 : UInt8)) s.toList with ⟨e, _⟩ | ⟨i, e, hi, _, hi', hp⟩
  · refine ⟨s, ⟨#[]⟩, s, ⟨#[]⟩, rfl, rfl, ?_, ?_⟩
    · by_cases hx : x3.toList = []
      · refine ⟨⟨#[48]⟩, by rw [hep, if_pos hx, toList_eq'], ?_⟩
        refine Ev.step (fun k => by rw [semantic_ParseRedHatVersion.j1]) ?_
        refine (zzCut_no s 45 (by omega) e).bind ?_
        exact ev_neg (by simp) (ev_pos hx (Ev.now _))
      · refine ⟨x3, by rw [hep, if_neg hx], ?_⟩
        refine Ev.step (fun k => by rw [semantic_ParseRedHatVersion.j1]) ?_
        refine (zzCut_no s 45 (by omega) e).bind ?_
        exact ev_neg (by simp) (ev_neg hx (Ev.now _))
    · intro g h0 _
      rw [e] at ix
      refine ix.bind ?_
      exact ⟨0, fun k _ => h0 k⟩
  · have hlt : i < s.size := by rw [← len_toList]; exact hi
    have hr : ((⟨#[45]⟩ : ByteArray) ++ s.extract (i + 1) s.size).toList = (s.extract i s.size).toList := by
      rw [append_toList, ext_all, ext_all, drop_at s i hlt, one_toList]
      have : s[i]'hlt = 45 := by
        have := eq_of_beq hp
        rwa [getElem_toList s i hlt] at this
      rw [this]
      rfl
    have hz : 1 + (s.extract (i + 1) s.size).size ≤ 9223372036854775807 := by rw [ByteArray.size_extract]; omega
    refine ⟨s.extract 0 i, (⟨#[45]⟩ : ByteArray) ++ s.extract (i + 1) s.size, s.extract 0 i, s.extract i s.size, rfl, hr, ?_, ?_⟩
    · by_cases hx : x3.toList = []
      · refine ⟨⟨#[48]⟩, by rw [hep, if_pos hx, toList_eq'], ?_⟩
        refine Ev.step (fun k => by rw [semantic_ParseRedHatVersion.j1]) ?_
        refine (zzCut_yes s 45 (by omega) i hlt e).bind ?_
        exact ev_pos rfl (ev_pos hz (ev_pos hx (Ev.now _)))
      · refine ⟨x3, by rw [hep, if_neg hx], ?_⟩
        refine Ev.step (fun k => by rw [semantic_ParseRedHatVersion.j1]) ?_
        refine (zzCut_yes s 45 (by omega) i hlt e).bind ?_
        exact ev_pos rfl (ev_pos hz (ev_neg hx (Ev.now _)))
    · intro g _ h1
      rw [e] at ix
      refine ix.bind ?_
      exact ⟨0, fun k _ => h1 k i hlt⟩

theorem wr_nat (i : Nat) (h : i < 4611686018427387904) : wrap64 ((i : Int) + 1) = ((i + 1 : Nat) : Int) := wr i h
theorem only_digits (s : ByteArray) (h : s.toList ≠ []) : onlyDigits s = digitsB s.toList := by
  unfold onlyDigits digitsB
  have : s.toList.isEmpty = false := by simpa using h
  rw [this]
  simp
theorem only_f (s : ByteArray) (h : s.size ≤ 1500) : Giv.semantic_isOnlyDigits.f s = some (onlyDigits s) := by
  unfold Giv.semantic_isOnlyDigits.f
  rw [if_pos (by omega)]

/-- Both answers, and that they are one. -/
theorem both (s : ByteArray) (hs : s.size ≤ 1500) : ∃ e v r e' v' r' : ByteArray, e.toList = e'.toList ∧ v.toList = v'.toList ∧ r.toList = r'.toList ∧
    Ev (fun k => impl_RedHatParse.f k s) (e, v, r) ∧ Ev (fun k => spec_RedHatParse.f k s) (e', v', r') := by
  have done : ∀ e v r, Ev (fun k => semantic_ParseRedHatVersion.f k s) (e, v, r) → Ev (fun k => impl_RedHatParse.f k s) (e, v, r) := by
    intro e v r h
    refine h.bind ?_
    exact ⟨0, fun _ _ => rfl⟩
  have ix := indexOf_ev s 58 (by omega)
  -- without an epoch
  have plain : ∃ e v r e' v' r' : ByteArray, e.toList = e'.toList ∧ v.toList = v'.toList ∧ r.toList = r'.toList ∧ Ev (fun k => semantic_ParseRedHatVersion.j1 k ⟨#[]⟩ s) (e, v, r) ∧ ∀ x4 : Int, Ev (fun k => spec_RedHatParse.j0 k s x4 false ⟨#[48]⟩ ⟨#[]⟩ ⟨#[]⟩) (e', v', r') := by
    obtain ⟨v, r, v', r', hv, hr, ⟨e, he, h1⟩, h2⟩ := tail_both s hs ⟨#[]⟩ ⟨#[48]⟩ (by rw [toList_eq', toList_eq']; rfl)
    refine ⟨e, v, r, ⟨#[48]⟩, v', r', he, hv, hr, h1, fun x4 => ?_⟩
    refine Ev.step (fun k => by rw [spec_RedHatParse.j0]) ?_
    refine ev_neg (by simp) ?_
    refine h2 _ (fun k => ?_) (fun k i hi => ?_)
    · rw [if_neg (by omega)]
    · rw [if_pos (by omega), if_pos (by omega), if_pos (by omega), Int.toNat_natCast]
  rcases placeOf_range (fun x => x == (58 : UInt8)) s.toList with ⟨e0, _⟩ | ⟨i, e0, hi, _, _, _⟩
  · obtain ⟨e, v, r, e', v', r', h1, h2, h3, h4, h5⟩ := plain
    refine ⟨e, v, r, e', v', r', h1, h2, h3, done _ _ _ ?_, ?_⟩
    · refine (zzCut_no s 58 (by omega) e0).bind ?_
      refine ev_neg (by simp) ?_
      refine Ev.step (fun k => by rw [semantic_ParseRedHatVersion.j0]) ?_
      exact ev_pos rfl h4
    · rw [e0] at ix
      refine ix.bind ?_
      exact ev_neg (by omega) (h5 _)
  · have hlt : i < s.size := by rw [← len_toList]; exact hi
    have hz1 : (s.extract (i + 1) s.size).size ≤ 1500 := by rw [ByteArray.size_extract]; omega
    have hz0 : (s.extract 0 i).size ≤ 1500 := by rw [ByteArray.size_extract]; omega
    have w := wr i (by omega)
    have sz : (s.extract (i + 1) s.size).size = s.size - (i + 1) := by rw [ByteArray.size_extract]; omega
    rw [e0] at ix
    by_cases hi0 : i = 0
    · subst hi0
      have hb : s.extract 0 0 = ⟨#[]⟩ := by
        apply eq_of_toList
        rw [ext_head, List.take_zero, toList_eq']
      obtain ⟨v, r, v', r', hv, hr, ⟨e, he, h1⟩, h2⟩ := tail_both (s.extract 1 s.size) hz1 ⟨#[]⟩ ⟨#[48]⟩ (by rw [toList_eq', toList_eq']; rfl)
      refine ⟨e, v, r, ⟨#[48]⟩, v', r', he, hv, hr, done _ _ _ ?_, ?_⟩
      · refine (zzCut_yes s 58 (by omega) 0 hlt e0).bind ?_
        refine ev_pos rfl ?_
        rw [hb]
        have o : Giv.semantic_isOnlyDigits.f ⟨#[]⟩ = some true := by
          rw [only_f _ (by decide)]
          unfold onlyDigits
          rw [toList_eq']
          rfl
        rw [o]
        refine ev_some ?_
        refine Ev.step (fun k => by rw [semantic_ParseRedHatVersion.j0]) ?_
        exact ev_neg (by simp) h1
      · refine ix.bind ?_
        refine ev_pos (by omega) (ev_pos rfl ?_)
        refine Ev.step (fun k => by rw [spec_RedHatParse.j0]) ?_
        refine ev_pos rfl (ev_neg (by omega) ?_)
        have w0 : wrap64 (((0 : Nat) : Int) + 1) = ((1 : Nat) : Int) := w
        rw [w0]
        refine ev_pos (by omega) (ev_pos (by omega) ?_)
        rw [Int.toNat_natCast]
        refine h2 _ (fun k => ?_) (fun k j hj => ?_)
        · rw [if_neg (by omega)]
        · rw [if_pos (by omega), if_pos (by omega), if_pos (by omega), Int.toNat_natCast, sz]
    · have hne : (s.extract 0 i).toList ≠ [] := by
        rw [ext_head]
        intro h
        have := congrArg List.length h
        rw [List.length_take, len_toList, List.length_nil] at this
        omega
      have ad := allDigits_ev (s.extract 0 i) (by omega)
      rw [← only_digits _ hne] at ad
      cases hb : onlyDigits (s.extract 0 i) with
      | true =>
        rw [hb] at ad
        obtain ⟨v, r, v', r', hv, hr, ⟨e, he, h1⟩, h2⟩ := tail_both (s.extract (i + 1) s.size) hz1 (s.extract 0 i) (s.extract 0 i) (by rw [if_neg hne])
        refine ⟨e, v, r, s.extract 0 i, v', r', he, hv, hr, done _ _ _ ?_, ?_⟩
        · refine (zzCut_yes s 58 (by omega) i hlt e0).bind ?_
          refine ev_pos rfl ?_
          rw [only_f _ hz0, hb]
          refine ev_some ?_
          refine Ev.step (fun k => by rw [semantic_ParseRedHatVersion.j0]) ?_
          exact ev_neg (by simp) h1
        · refine ix.bind ?_
          refine ev_pos (by omega) (ev_neg (by omega) (ev_pos (by omega) (ev_pos (by omega) ?_)))
          rw [Int.toNat_natCast]
          refine ad.bind ?_
          refine Ev.step (fun k => by rw [spec_RedHatParse.j0]) ?_
          refine ev_pos rfl (ev_pos (by omega) (ev_pos (by omega) (ev_pos (by omega) ?_)))
          rw [w]
          refine ev_pos (by omega) (ev_pos (by omega) ?_)
          rw [Int.toNat_natCast, Int.toNat_natCast]
          refine h2 _ (fun k => ?_) (fun k j hj => ?_)
          · rw [if_neg (by omega)]
          · rw [if_pos (by omega), if_pos (by omega), if_pos (by omega), Int.toNat_natCast, sz]
      | false =>
        rw [hb] at ad
        obtain ⟨e, v, r, e', v', r', h1, h2, h3, h4, h5⟩ := plain
        refine ⟨e, v, r, e', v', r', h1, h2, h3, done _ _ _ ?_, ?_⟩
        · refine (zzCut_yes s 58 (by omega) i hlt e0).bind ?_
          refine ev_pos rfl ?_
          rw [only_f _ hz0, hb]
          refine ev_some ?_
          refine Ev.step (fun k => by rw [semantic_ParseRedHatVersion.j0]) ?_
          exact ev_pos rfl h4
        · refine ix.bind ?_
          refine ev_pos (by omega) (ev_neg (by omega) (ev_pos (by omega) (ev_pos (by omega) ?_)))
          rw [Int.toNat_natCast]
          refine ad.bind ?_
          exact h5 _
end Go.Proofs.Ytojabknjniihmaa.QA
namespace Go.Proofs.Ytojabknjniihmaa.Pure
open Go.RowKit Go.Proofs.Ytojabknjniihmaa.QA Go.Proofs.YtojabknjniihmaaW.PrintWords Go.Proofs.YtojabknjniihmaaW.PrintLast Go.Proofs.Ytojabknjniihmaa.Pk Go.Proofs.Ytojabknjniihmaa.Giv
theorem FnRedHatParse : laws_FnRedHatParse.Pure := by
  intro s _
  suffices h : Ev (fun k => laws_FnRedHatParse.f k s) true from h.rounds
  unfold laws_FnRedHatParse.f
  by_cases hz : (s.size : Int) > 2147483647
  · exact ev_pos hz (Ev.now _)
  · refine ev_neg hz ?_
    refine (short_ev [s] (by simp)).bind ?_
    cases hb : shortB [s] with
    | false =>
      refine ev_neg (by simp) ?_
      refine Ev.step (fun k => by rw [laws_FnRedHatParse.j0]) ?_
      exact ev_pos rfl (Ev.now _)
    | true =>
      refine ev_pos rfl ?_
      have hs := short_sizes hb s (by simp)
      have kn : spec_RedHatKnown.f s = some true := by
        unfold spec_RedHatKnown.f
        simp
      rw [kn]
      refine ev_some ?_
      refine Ev.step (fun k => by rw [laws_FnRedHatParse.j0]) ?_
      refine ev_neg (by simp) ?_
      obtain ⟨e, v, r, e', v', r', h1, h2, h3, h4, h5⟩ := both s hs
      refine h4.bind (h5.bind ?_)
      simp only [h1, h2, h3]
      exact ⟨0, fun _ _ => by simp⟩
end Go.Proofs.Ytojabknjniihmaa.Pure
