/- The statement FnLetterVersion: the normal form of a letter and a number of a release, for all pairs of texts.
   No condition beyond those that the statement itself states (its card ties the listed variables to the program's text). -/
import Derived.Test.YtchbfjjeodnocaaDoorHPshort
import Derived.Test.YtchbfjjeodnocaaDoorHPdg
import Derived.Test.YtchbfjjeodnocaaDoorHPasc2
import Derived.Test.YtchbfjjeodnocaaDoorHPio
import Derived.Test.YtchbfjjeodnocaaDoorMGivLy
import Derived.Test.YtchbfjjeodnocaaDoorGivSl
import Derived.Test.YtchbfjjeodnocaaDoorQHx
namespace Go.Proofs.YtchbfjjeodnocaaDoor.Pure
open Go.RowKit Go.Proofs.YtchbfjjeodnocaaDoor.QH Go.Proofs.YtchbfjjeodnocaaDoorW.PrintWords Go.Proofs.YtchbfjjeodnocaaDoorW.PrintLast Go.Proofs.YtchbfjjeodnocaaDoor.Pk Go.Proofs.YtchbfjjeodnocaaDoor.Giv Go.Proofs.YtchbfjjeodnocaaDoor.Ord
set_option linter.unusedVariables false
set_option linter.unusedSimpArgs false
theorem parse_digs {l : List UInt8} (h : l.all Rpm.dig = true) (h0 : l ≠ []) : Num.parse l = some (Num.dec l : Int) := by
  have hd : Num.digits l = true := by
    unfold Num.digits
    rw [h]
    simpa using h0
  have cs : Num.cutSign l = (false, l) := by
    cases l with
    | nil => exact absurd rfl h0
    | cons c r =>
      rw [List.all_cons, Bool.and_eq_true] at h
      have := h.1
      unfold Rpm.dig at this
      have h2 := of_decide_eq_true this
      unfold Num.cutSign
      have n1 : ¬ c.toNat = 45 := by omega
      have n2 : ¬ c.toNat = 43 := by omega
      simp [n1, n2]
  unfold Num.parse
  rw [cs, hd]
  rfl
theorem spelling_ev (s : ByteArray) : Ev (fun k => spec_pypiSpelling.f k s) (lvN s) := by
  have jt : Ev (fun k => spec_pypiSpelling.j0 k s s true) (⟨#[114, 99]⟩ : ByteArray) := by
    refine Ev.step (fun k => by rw [spec_pypiSpelling.j0]) ?_
    exact ev_pos rfl (Ev.now _)
  have jf : Ev (fun k => spec_pypiSpelling.j0 k s s false) (if (s.toList == [114, 101, 118]) = true then ⟨#[112, 111, 115, 116]⟩ else if (s.toList == [114]) = true then ⟨#[112, 111, 115, 116]⟩ else s) := by
    refine Ev.step (fun k => by rw [spec_pypiSpelling.j0]) ?_
    refine ev_neg (by simp) ?_
    by_cases h1 : s.toList = [114, 101, 118]
    · rw [if_pos (show (s.toList == [114, 101, 118]) = true by rw [h1]; rfl)]
      exact ev_pos h1 (Ev.now _)
    · rw [if_neg (show ¬ (s.toList == [114, 101, 118]) = true by simpa using h1)]
      refine ev_neg h1 ?_
      by_cases h2 : s.toList = [114]
      · rw [if_pos (show (s.toList == [114]) = true by rw [h2]; rfl)]
        exact ev_pos h2 (Ev.now _)
      · rw [if_neg (show ¬ (s.toList == [114]) = true by simpa using h2)]
        exact ev_neg h2 (Ev.now _)
  unfold spec_pypiSpelling.f lvN
  by_cases h1 : s.toList = [97, 108, 112, 104, 97]
  · rw [if_pos (show (s.toList == [97, 108, 112, 104, 97]) = true by rw [h1]; rfl)]
    exact ev_pos h1 (Ev.now _)
  rw [if_neg (show ¬ (s.toList == [97, 108, 112, 104, 97]) = true by simpa using h1)]
  refine ev_neg h1 ?_
  by_cases h2 : s.toList = [98, 101, 116, 97]
  · rw [if_pos (show (s.toList == [98, 101, 116, 97]) = true by rw [h2]; rfl)]
    exact ev_pos h2 (Ev.now _)
  rw [if_neg (show ¬ (s.toList == [98, 101, 116, 97]) = true by simpa using h2)]
  refine ev_neg h2 ?_
  by_cases h3 : s.toList = [99]
  · have b : (s.toList == ([99] : List UInt8)) = true := by rw [h3]; rfl
    rw [if_pos b]
    refine ev_pos h3 ?_
    rw [b]
    exact jt
  rw [if_neg (show ¬ (s.toList == [99]) = true by simpa using h3)]
  refine ev_neg h3 ?_
  by_cases h4 : s.toList = [112, 114, 101]
  · have b : (s.toList == ([112, 114, 101] : List UInt8)) = true := by rw [h4]; rfl
    rw [if_pos b]
    refine ev_pos h4 ?_
    rw [b]
    exact jt
  rw [if_neg (show ¬ (s.toList == [112, 114, 101]) = true by simpa using h4)]
  refine ev_neg h4 ?_
  cases b : (s.toList == ([112, 114, 101, 118, 105, 101, 119] : List UInt8)) with
  | true => exact jt
  | false =>
    rw [if_neg (by decide)]
    exact jf
theorem size_of_nil {s : ByteArray} (h : s.toList = []) : s.size = 0 := by
  have := congrArg List.length h
  rw [len_toList] at this
  exact this
theorem FnLetterVersion : ∀ (a0 : ByteArray) (a1 : ByteArray), a0.size ≤ 140737488351232 → a1.size ≤ 140737488351232 → ∃ k, laws_FnLetterVersion.f k a0 a1 = some true := by
  intro s n _ _
  suffices h : Ev (fun k => laws_FnLetterVersion.f k s n) true from h.rounds
  have out : Ev (fun k => laws_FnLetterVersion.j0 k s n true) true := by
    refine Ev.step (fun k => by rw [laws_FnLetterVersion.j0]) ?_
    exact ev_pos rfl (Ev.now _)
  have out1 : Ev (fun k => laws_FnLetterVersion.j1 k s n true) true := by
    refine Ev.step (fun k => by rw [laws_FnLetterVersion.j1]) ?_
    exact ev_pos rfl (Ev.now _)
  unfold laws_FnLetterVersion.f
  by_cases hs : (s.size : Int) > 2147483647
  · exact ev_pos hs out
  refine ev_neg hs ?_
  by_cases hn : (n.size : Int) > 2147483647
  · rw [decide_eq_true hn]
    exact out
  rw [decide_eq_false hn]
  refine Ev.step (fun k => by rw [laws_FnLetterVersion.j0]) ?_
  refine ev_neg (by simp) ((short_ev [s, n] (by simp)).bind ?_)
  cases sh : shortB [s, n] with
  | false => exact ev_neg (by simp) out1
  | true =>
  have zs := short_sizes sh s (by simp)
  have zn := short_sizes sh n (by simp)
  refine ev_pos rfl ?_
  have known : ∃ q, Ev (fun k => spec_LetterKnown.f k s n) q ∧ (q = true → ascB s = true ∧ n.toList.all Rpm.dig = true) := by
    unfold spec_LetterKnown.f
    cases ha : ascB s with
    | false =>
      refine ⟨false, (ascii_ev s (by omega)).bind ?_, fun h => by cases h⟩
      rw [ha]
      exact ev_neg (by simp) (Ev.now _)
    | true =>
      by_cases h0 : n.toList = []
      · refine ⟨true, (ascii_ev s (by omega)).bind ?_, fun _ => ⟨rfl, by rw [h0]; rfl⟩⟩
        rw [ha]
        exact ev_pos rfl (ev_pos h0 (Ev.now _))
      · refine ⟨Num.digits n.toList, (ascii_ev s (by omega)).bind ?_, fun h => ⟨rfl, ?_⟩⟩
        · rw [ha]
          exact ev_pos rfl (ev_neg h0 ((allDigits_ev n (by omega)).bind (Ev.now _)))
        · unfold Num.digits at h
          rw [Bool.and_eq_true] at h
          exact h.2
  obtain ⟨q, eq, hq⟩ := known
  refine eq.bind ?_
  cases q with
  | false => exact out1
  | true =>
  obtain ⟨ha, hd⟩ := hq rfl
  have io := intOf_ev n (by omega) hd
  have hall : (s.data.toList.all fun b => decide (b.toNat < 128)) = true := by
    have := ha
    unfold ascB at this
    rwa [Lib.toList_data] at this
  have ng : decide ((Num.dec n.toList : Int) < 0) = false := decide_eq_false (by omega)
  refine Ev.step (fun k => by rw [laws_FnLetterVersion.j1]) ?_
  refine ev_neg (by simp) ?_
  have fin : ∀ r : Bool × ByteArray × Bool × ByteArray × Bool, Giv.impl_LetterVersion.f s n = some r → Ev (fun k => spec_LetterVersion.f k s n) r → Ev (fun k => (Giv.impl_LetterVersion.f s n).bind fun bt128 => ((spec_LetterVersion.f k s n).bind fun bt134 => (if (bt128.1 == bt134.1 && (bt128.2.1.toList == bt134.2.1.toList && ((bt128.2.2.1 == bt134.2.2.1 && (bt128.2.2.2.1.toList == bt134.2.2.2.1.toList))))) = true then (some (bt128.2.2.2.2 == bt134.2.2.2.2)) else (some false)))) true := by
    intro r h1 h2
    rw [h1]
    refine ev_some (h2.bind ?_)
    refine ev_pos (by simp) ?_
    rw [show (r.2.2.2.2 == r.2.2.2.2) = true by simp]
    exact Ev.now _
  by_cases h0 : s.toList = []
  · have s0 := size_of_nil h0
    by_cases n0 : n.toList = []
    · refine fin (false, ⟨#[]⟩, false, ⟨#[]⟩, true) ?_ ?_
      · unfold Giv.impl_LetterVersion.f
        rw [if_pos ⟨by omega, by omega, hall⟩, if_pos s0, if_pos (size_of_nil n0)]
      · unfold spec_LetterVersion.f
        exact ev_pos h0 (ev_pos n0 (Ev.now _))
    · refine fin (true, ⟨#[112, 111, 115, 116]⟩, false, bs (Lb.mag (Num.dec n.toList)), true) ?_ ?_
      · unfold Giv.impl_LetterVersion.f
        have nz : ¬ n.size = 0 := fun h => n0 (by
          have := len_toList n
          exact List.length_eq_zero_iff.1 (by omega))
        rw [if_pos ⟨by omega, by omega, hall⟩, if_pos s0, if_neg nz, parse_digs hd n0]
        simp only [ng, Int.natAbs_natCast]
      · unfold spec_LetterVersion.f
        exact ev_pos h0 (ev_neg n0 (io.bind (Ev.now _)))
  · have sz : ¬ s.size = 0 := fun h => h0 (by
      have := len_toList s
      exact List.length_eq_zero_iff.1 (by omega))
    refine fin (true, lvN (low s), false, bs (Lb.mag (Num.dec n.toList)), true) ?_ ?_
    · unfold Giv.impl_LetterVersion.f
      rw [if_pos ⟨by omega, by omega, hall⟩, if_neg sz]
      by_cases n0 : n.toList = []
      · rw [if_pos (show (n.toList == ([] : List UInt8)) = true by rw [n0]; rfl), n0]
        have p : Num.parse (⟨#[48]⟩ : ByteArray).toList = some ((0 : Nat) : Int) := by
          rw [show (⟨#[48]⟩ : ByteArray) = bs [48] from rfl, bs_toList]
          exact parse_digs (l := [48]) (by decide) (by simp)
        rw [p, Num.dec_nil]
        rfl
      · rw [if_neg (show ¬ (n.toList == ([] : List UInt8)) = true by simpa using n0), parse_digs hd n0]
        simp only [ng, Int.natAbs_natCast]
    · unfold spec_LetterVersion.f
      have l : Giv.spec_lower.f s = some (low s) := if_pos (by omega)
      rw [l]
      exact ev_neg h0 (ev_some ((spelling_ev (low s)).bind (io.bind (Ev.now _))))
end Go.Proofs.YtchbfjjeodnocaaDoor.Pure
