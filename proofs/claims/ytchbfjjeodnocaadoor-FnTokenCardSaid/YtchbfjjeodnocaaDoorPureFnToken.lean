/- The statement FnToken: a token's place by its prefix and sort, whether it is dropped at the end, and what fills up beside it, for all tokens.
   No condition beyond those that the statement itself states (its card ties the listed variables to the program's text). -/
import Derived.Test.YtchbfjjeodnocaaDoorTPshort
import Derived.Test.YtchbfjjeodnocaaDoorTPdg
import Derived.Test.YtchbfjjeodnocaaDoorTPasc2
import Derived.Test.YtchbfjjeodnocaaDoorZA
import Derived.Test.YtchbfjjeodnocaaDoorQTx
namespace Go.Proofs.YtchbfjjeodnocaaDoor.Pure
open Go.RowKit Go.Proofs.YtchbfjjeodnocaaDoor.QT Go.Proofs.YtchbfjjeodnocaaDoorW.PrintWords Go.Proofs.YtchbfjjeodnocaaDoorW.PrintLast Go.Proofs.YtchbfjjeodnocaaDoor.Pk Go.Proofs.YtchbfjjeodnocaaDoor.Giv Go.Proofs.YtchbfjjeodnocaaDoor.Ord
/-- Known tokens: what of them is wanted. -/
theorem known_ev (p v : ByteArray) (n : Bool) (hv : v.size ≤ 1500) : ∃ b, Ev (fun k => spec_TokenKnown.f k p v n) b ∧ (b = true → Seg.signed v.toList = false) := by
  have j0 : ∀ x : Bool, ∃ b, Ev (fun k => spec_TokenKnown.j0 k x p v n) b ∧ (b = true → Seg.signed v.toList = false) := by
    intro x
    cases x with
    | true => exact ⟨false, Ev.step (fun k => by rw [spec_TokenKnown.j0]) (ev_pos rfl (Ev.now _)), fun h => absurd h (by simp)⟩
    | false =>
      have a := allDigits_ev v (by omega)
      cases hd : Num.digits v.toList with
      | true =>
        rw [hd] at a
        have hs : Seg.signed v.toList = false := by
          cases hl : v.toList with
          | nil => rfl
          | cons c r =>
            rw [hl] at hd
            unfold Num.digits at hd
            rw [Bool.and_eq_true, List.all_cons, Bool.and_eq_true] at hd
            have h2 := of_decide_eq_true hd.2.1
            have n1 : ¬ c.toNat = 45 := by omega
            have n2 : ¬ c.toNat = 43 := by omega
            unfold Seg.signed
            simp [n1, n2]
        by_cases h1 : (v.size : Int) = 1
        · refine ⟨true, Ev.step (fun k => by rw [spec_TokenKnown.j0]) ?_, fun _ => hs⟩
          exact ev_neg (by simp) (a.bind (ev_pos rfl (ev_pos h1 (Ev.now _))))
        · have h0 : 0 < (v.size : Int) := by
            have : v.toList ≠ [] := fun e => by rw [e] at hd; exact absurd hd (by decide)
            have := List.length_pos_iff.2 this
            rw [len_toList] at this
            omega
          refine ⟨((bt v 0) != 48), Ev.step (fun k => by rw [spec_TokenKnown.j0]) ?_, fun _ => hs⟩
          exact ev_neg (by simp) (a.bind (ev_pos rfl (ev_neg h1 (ev_pos h0 (Ev.now _)))))
      | false =>
        rw [hd] at a
        obtain ⟨b, hb, hi⟩ : ∃ b, spec_mavenLetters.f v = some b ∧ (b = true → Seg.signed v.toList = false) := by
          unfold spec_mavenLetters.f
          by_cases he : v.toList = []
          · exact ⟨true, by rw [if_pos he], fun _ => by rw [he]; rfl⟩
          · have h0 : 0 < v.size := by
              have := List.length_pos_iff.2 he
              rwa [len_toList] at this
            have b0 := bt_nat v 0 h0
            have hl : v.toList = v[0]'h0 :: v.toList.drop 1 := by
              have := drop_at v 0 h0
              rwa [List.drop_zero] at this
            rw [if_neg he, if_pos (by omega), show (0 : Int) = ((0 : Nat) : Int) from rfl, b0]
            by_cases h97 : ((v[0]'h0).toNat : Int) ≥ 97
            · refine ⟨_, by rw [if_pos h97], fun _ => ?_⟩
              have n1 : ¬ (v[0]'h0).toNat = 45 := by omega
              have n2 : ¬ (v[0]'h0).toNat = 43 := by omega
              rw [hl]
              unfold Seg.signed
              simp [n1, n2]
            · exact ⟨false, by rw [if_neg h97], fun h => absurd h (by simp)⟩
        refine ⟨b, Ev.step (fun k => by rw [spec_TokenKnown.j0]) ?_, hi⟩
        refine ev_neg (by simp) (a.bind (ev_neg (by simp) ?_))
        rw [hb]
        exact ev_some (Ev.now _)
  have asc := ascii_ev v (by omega)
  unfold spec_TokenKnown.f
  by_cases hn : n = true
  · obtain ⟨b, e, i⟩ := j0 true
    exact ⟨b, ev_pos hn e, i⟩
  · by_cases h0 : p.toList = []
    · obtain ⟨b, e, i⟩ := j0 (!ascB v)
      exact ⟨b, ev_neg hn (ev_pos h0 (asc.bind e)), i⟩
    · by_cases h1 : p.toList = [46]
      · obtain ⟨b, e, i⟩ := j0 (!ascB v)
        exact ⟨b, ev_neg hn (ev_neg h0 (ev_pos h1 (asc.bind e))), i⟩
      · by_cases h2 : p.toList = [45]
        · obtain ⟨b, e, i⟩ := j0 (!ascB v)
          exact ⟨b, ev_neg hn (ev_neg h0 (ev_neg h1 (ev_pos h2 (asc.bind e)))), i⟩
        · obtain ⟨b, e, i⟩ := j0 true
          exact ⟨b, ev_neg hn (ev_neg h0 (ev_neg h1 (ev_neg h2 e))), i⟩
theorem specOrder_ev (p v : ByteArray) (n : Bool) (hv : v.size ≤ 1500) (hs : Seg.signed v.toList = false) : Ev (fun k => spec_TokenOrder.f k p v n) (qoR p v) := by
  have a := allDigits_ev v (by omega)
  have e : (Num.parse v.toList).isSome = Num.digits v.toList := by
    rw [Seg.parse_plain hs]
    cases Num.digits v.toList <;> rfl
  unfold qoR qo
  rw [e]
  unfold spec_TokenOrder.f
  refine a.bind ?_
  cases Num.digits v.toList with
  | true =>
    by_cases h1 : p.toList = [46]
    · have h2 : ¬ p.toList = [45] := by rw [h1]; decide
      rw [if_neg h2, if_pos h1]
      refine ev_pos h1 (Ev.step (fun k => by rw [spec_TokenOrder.j0]) ?_)
      exact ev_pos rfl (Ev.now _)
    · refine ev_neg h1 (Ev.step (fun k => by rw [spec_TokenOrder.j0]) ?_)
      refine ev_neg (by simp) (ev_neg h1 (Ev.step (fun k => by rw [spec_TokenOrder.j1]) ?_))
      refine ev_neg (by simp) ?_
      by_cases h2 : p.toList = [45]
      · rw [if_pos h2]
        refine ev_pos h2 (Ev.step (fun k => by rw [spec_TokenOrder.j2]) ?_)
        exact ev_pos rfl (Ev.now _)
      · rw [if_neg h2, if_neg h1]
        refine ev_neg h2 (Ev.step (fun k => by rw [spec_TokenOrder.j2]) ?_)
        exact ev_neg (by simp) (ev_neg h2 (Ev.now _))
  | false =>
    by_cases h1 : p.toList = [46]
    · have h2 : ¬ p.toList = [45] := by rw [h1]; decide
      rw [if_neg h2, if_pos h1]
      refine ev_pos h1 (Ev.step (fun k => by rw [spec_TokenOrder.j0]) ?_)
      refine ev_neg (by simp) (ev_pos h1 (Ev.step (fun k => by rw [spec_TokenOrder.j1]) ?_))
      exact ev_pos rfl (Ev.now _)
    · refine ev_neg h1 (Ev.step (fun k => by rw [spec_TokenOrder.j0]) ?_)
      refine ev_neg (by simp) (ev_neg h1 (Ev.step (fun k => by rw [spec_TokenOrder.j1]) ?_))
      refine ev_neg (by simp) ?_
      by_cases h2 : p.toList = [45]
      · rw [if_pos h2]
        refine ev_pos h2 (Ev.step (fun k => by rw [spec_TokenOrder.j2]) ?_)
        exact ev_neg (by simp) (ev_pos h2 (Ev.now _))
      · rw [if_neg h2, if_neg h1]
        refine ev_neg h2 (Ev.step (fun k => by rw [spec_TokenOrder.j2]) ?_)
        exact ev_neg (by simp) (ev_neg h2 (Ev.now _))
theorem specNull_ev (p v : ByteArray) (n : Bool) : Ev (fun k => spec_TokenNull.f k p v n) (nullR p v) := by
  unfold nullR nullTok spec_TokenNull.f
  by_cases h2 : p.toList = [45]
  · have h1 : ¬ p.toList = [46] := by rw [h2]; decide
    obtain rfl := of45 h2
    rw [if_neg h1, if_pos h2]
    refine ev_pos h2 ?_
    rw [beq_iff_eq.2 h2]
    refine Ev.step (fun k => by rw [spec_TokenNull.j0]) ?_
    exact ev_pos rfl (Ev.now _)
  · refine ev_neg h2 ?_
    by_cases h1 : p.toList = [46]
    · obtain rfl := of46 h1
      rw [if_pos h1]
      refine ev_pos h1 ?_
      cases hsp : (v.toList == ([115, 112] : List UInt8)) with
      | true =>
        rw [if_pos (by simpa using hsp)]
        refine Ev.step (fun k => by rw [spec_TokenNull.j0]) ?_
        exact ev_pos rfl (Ev.now _)
      | false =>
        rw [if_neg (by simpa using hsp)]
        refine Ev.step (fun k => by rw [spec_TokenNull.j0]) ?_
        exact ev_neg (by simp) (ev_pos h1 (Ev.now _))
    · rw [if_neg h1, if_neg h2]
      refine ev_neg h1 (Ev.step (fun k => by rw [spec_TokenNull.j0]) ?_)
      exact ev_neg (by simp) (ev_neg h1 (Ev.now _))
theorem specTrims_f (p v : ByteArray) (n : Bool) : spec_TokenTrims.f p v n = some (trimB v) := by
  unfold spec_TokenTrims.f trimB
  by_cases h1 : v.toList = [48]
  · rw [if_pos h1, h1]; rfl
  · rw [if_neg h1, show (v.toList == [48]) = false by simpa using h1]
    by_cases h2 : v.toList = []
    · rw [if_pos h2, h2]; rfl
    · rw [if_neg h2, show (v.toList == ([] : List UInt8)) = false by simpa using h2]
      by_cases h3 : v.toList = [102, 105, 110, 97, 108]
      · rw [if_pos h3, h3]; rfl
      · rw [if_neg h3, show (v.toList == [102, 105, 110, 97, 108]) = false by simpa using h3]
        simp
theorem FnToken : ∀ (p v : ByteArray) (n : Bool), ∃ k, laws_FnToken.f k p v n = some true := by
  intro p v n
  suffices h : Ev (fun k => laws_FnToken.f k p v n) true from h.rounds
  have out : Ev (fun k => laws_FnToken.j0 k true p v n) true := by
    refine Ev.step (fun k => by rw [laws_FnToken.j0]) ?_
    exact ev_pos rfl (Ev.now _)
  unfold laws_FnToken.f
  obtain ⟨b, hb⟩ : ∃ b, laws_zzFits11.f p v n = some b := by
    unfold laws_zzFits11.f
    split
    · exact ⟨_, rfl⟩
    · split <;> exact ⟨_, rfl⟩
  rw [hb]
  refine ev_some ?_
  cases b with
  | false => exact ev_neg (by simp) (Ev.now _)
  | true =>
  refine ev_pos rfl ((short_ev [p, v] (by simp)).bind ?_)
  cases sh : shortB [p, v] with
  | false => exact ev_neg (by simp) out
  | true =>
  have zv := short_sizes sh v (by simp)
  obtain ⟨kn, ek, hs⟩ := known_ev p v n zv
  refine ev_pos rfl (ek.bind ?_)
  cases kn with
  | false => exact out
  | true =>
  have so := specOrder_ev p v n zv (hs rfl)
  have sn := specNull_ev p v n
  have io : Giv.impl_TokenOrder.f p v n = some (qoR p v) := by
    unfold Giv.impl_TokenOrder.f
    rw [if_pos (by omega)]
  have it : Giv.impl_TokenTrims.f p v n = some (trimB v) := rfl
  have inl : Giv.impl_TokenNull.f p v n = some (nullR p v) := rfl
  generalize qoR p v = A at *
  generalize nullR p v = B at *
  refine Ev.step (fun k => by rw [laws_FnToken.j0, io, inl, it, specTrims_f]) ?_
  refine ev_neg (by simp) (ev_some (so.bind (ev_some (sn.bind ?_))))
  refine ev_pos rfl (ev_pos (by simp) (ev_pos (by simp) (ev_pos (by simp) (ev_some (ev_some ?_)))))
  rw [beq_iff_eq.2 rfl]
  exact Ev.now _
end Go.Proofs.YtchbfjjeodnocaaDoor.Pure
