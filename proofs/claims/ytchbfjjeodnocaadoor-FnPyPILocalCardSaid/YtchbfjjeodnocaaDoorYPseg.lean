/- What the reference's small functions over lists of texts answer: fits, digits, known segments, numbers in digits. -/
import Derived.Test.YtchbfjjeodnocaaDoorZD
import Derived.Test.YtchbfjjeodnocaaDoorZA
import Derived.Test.YtchbfjjeodnocaaDoorYPshort
import Derived.Test.YtchbfjjeodnocaaDoorYPdg
import Derived.Test.YtchbfjjeodnocaaDoorQYx
namespace Go.Proofs.YtchbfjjeodnocaaDoor.QY
open Go.RowKit Go.Proofs.YtchbfjjeodnocaaDoorW.PrintWords Go.Proofs.YtchbfjjeodnocaaDoorW.PrintLast Go.Proofs.YtchbfjjeodnocaaDoor.Pk Go.Proofs.YtchbfjjeodnocaaDoor.Giv Go.Proofs.YtchbfjjeodnocaaDoor.Ord
set_option linter.unusedVariables false

theorem tail_eq (s : ByteArray) (h : 0 < s.size) : s.toList = s[0]'h :: (s.extract 1 s.size).toList := by
  rw [ext_all]
  have := drop_at s 0 h
  simpa using this
/-- No sign ahead of digits in any. -/
def idK (l : List ByteArray) : Bool := l.all (fun s => !Seg.signed s.toList)
theorem idKnown_loop (l : List ByteArray) (hl : l.length < 4611686018427387904) (hs : ∀ s ∈ l, s.size < 4611686018427387904) (d : Nat) : ∀ i : Nat, i + d = l.length → Ev (fun k => spec_IdentifiersKnown.l0 k l (i : Int)) (idK (l.drop i)) := by
  induction d with
  | zero =>
    intro i hi
    refine Ev.step (fun k => by rw [spec_IdentifiersKnown.l0]) ?_
    refine ev_neg (by omega) ?_
    rw [List.drop_of_length_le (by omega)]
    exact Ev.now _
  | succ d ih =>
    intro i hi
    have hlt : i < l.length := by omega
    have w := wr i (by omega)
    have r := rdOf_nat ByteArray.empty l i hlt
    have hz := hs _ (List.getElem_mem hlt)
    have nx := ih (i + 1) (by omega)
    rw [List.drop_eq_getElem_cons hlt]
    unfold idK at nx ⊢
    rw [List.all_cons]
    generalize l[i]'hlt = s at *
    refine Ev.step (fun k => by rw [spec_IdentifiersKnown.l0, w, r]) ?_
    refine ev_pos (by omega) (ev_pos (by omega) ?_)
    by_cases h1 : (s.size : Int) > 1
    · have h0 : 0 < s.size := by omega
      have et := tail_eq s h0
      have b0 : bt s 0 = ((s[0]'h0).toNat : Int) := bt_nat s 0 h0
      have ad := allDigits_ev (s.extract 1 s.size) (by rw [ByteArray.size_extract]; omega)
      refine ev_pos h1 (ev_pos (by omega) ?_)
      rw [b0]
      have sg : Seg.signed s.toList = ((decide ((s[0]'h0).toNat = 45) || decide ((s[0]'h0).toNat = 43)) && Num.digits (s.extract 1 s.size).toList) := by
        conv => lhs; rw [et]
        rfl
      rw [sg]
      by_cases c1 : ((s[0]'h0).toNat : Int) = 45
      · refine ev_pos c1 (ev_pos (by omega) (ad.bind ?_))
        rw [decide_eq_true (by omega), Bool.true_or, Bool.true_and]
        cases Num.digits (s.extract 1 s.size).toList with
        | true => exact ev_pos rfl (Ev.now _)
        | false => exact ev_neg (by simp) nx
      · refine ev_neg c1 ?_
        by_cases c2 : ((s[0]'h0).toNat : Int) = 43
        · refine ev_pos c2 (ev_pos (by omega) (ad.bind ?_))
          rw [decide_eq_false (by omega), decide_eq_true (by omega), Bool.false_or, Bool.true_and]
          cases Num.digits (s.extract 1 s.size).toList with
          | true => exact ev_pos rfl (Ev.now _)
          | false => exact ev_neg (by simp) nx
        · refine ev_neg c2 ?_
          rw [decide_eq_false (by omega), decide_eq_false (by omega)]
          exact nx
    · refine ev_neg h1 ?_
      have sg : Seg.signed s.toList = false := by
        have hl : s.toList.length ≤ 1 := by rw [len_toList]; omega
        unfold Seg.signed
        cases hc : s.toList with
        | nil => rfl
        | cons c r =>
          have : r = [] := by rw [hc] at hl; simp at hl; exact hl
          subst this
          simp [Num.digits]
      rw [sg]
      exact nx
theorem idKnown_ev (l : List ByteArray) (hl : l.length < 4611686018427387904) (hs : ∀ s ∈ l, s.size < 4611686018427387904) : Ev (fun k => spec_IdentifiersKnown.f k l) (idK l) := by
  have := idKnown_loop l hl hs l.length 0 (by omega)
  exact this
theorem idK_tl {l : List ByteArray} (h : idK l = true) : ∀ x ∈ tl l, Seg.signed x = false := by
  intro x hx
  obtain ⟨s, hs, rfl⟩ := List.mem_map.1 hx
  unfold idK at h
  rw [List.all_eq_true] at h
  simpa using h s hs
end Go.Proofs.YtchbfjjeodnocaaDoor.QY
