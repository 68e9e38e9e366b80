/- The statement FnPyPILocalOrder: local versions of PyPI are in one order, for all lists of texts.
   No condition beyond those that the statement itself states (its card ties the listed variables to the program's text). -/
import Derived.Test.YtchbfjjeodnocaaDoorZOP
import Derived.Test.YtchbfjjeodnocaaDoorOPfits
import Derived.Test.YtchbfjjeodnocaaDoorNGivAw
import Derived.Test.YtchbfjjeodnocaaDoorQOx
namespace Go.Proofs.YtchbfjjeodnocaaDoor.Pure
open Go.RowKit Go.Proofs.YtchbfjjeodnocaaDoor.QO Go.Proofs.YtchbfjjeodnocaaDoorW.PrintWords Go.Proofs.YtchbfjjeodnocaaDoorW.PrintLast Go.Proofs.YtchbfjjeodnocaaDoor.Pk Go.Proofs.YtchbfjjeodnocaaDoor.Giv Go.Proofs.YtchbfjjeodnocaaDoor.Ord
set_option linter.unusedVariables false
set_option linter.unusedSimpArgs false
theorem tidy_nil : Ev (fun k => spec_IntOK.f k false (⟨#[]⟩ : ByteArray)) true := by
  unfold spec_IntOK.f
  have t : Ev (fun k => spec_numTidy.f k false (⟨#[]⟩ : ByteArray)) (false, (⟨#[]⟩ : ByteArray)) := by
    unfold spec_numTidy.f
    refine Ev.step (fun k => by rw [spec_numTidy.l0]) ?_
    refine ev_neg (by decide) (ev_neg (by simp) ?_)
    exact Ev.now _
  refine t.bind ?_
  rw [show ((false == false) && ((⟨#[]⟩ : ByteArray).toList == (⟨#[]⟩ : ByteArray).toList)) = true by simp]
  exact Ev.now _
theorem letterOK_nil : Ev (fun k => spec_pypiLetterOK.f k false (⟨#[]⟩ : ByteArray) false (⟨#[]⟩ : ByteArray)) true := by
  unfold spec_pypiLetterOK.f
  have t : Ev (fun k => spec_Ascii.f k (⟨#[]⟩ : ByteArray)) true := by
    unfold spec_Ascii.f
    refine Ev.step (fun k => by rw [spec_Ascii.l0]) ?_
    refine ev_neg (by decide) ?_
    exact Ev.now _
  refine tidy_nil.bind (ev_pos rfl (ev_neg (by simp) (t.bind (ev_pos rfl (ev_neg (by simp) ?_)))))
  exact Ev.now _
theorem ascii_tm (s : ByteArray) (hs : s.size < 4611686018427387904) (d : Nat) : ∀ i : Nat, i + d = s.size → Tm (fun k => spec_Ascii.l0 k s (i : Int)) := by
  induction d with
  | zero =>
    intro i hi
    refine Tm.step (fun k => by rw [spec_Ascii.l0]) ?_
    exact Tm.ite (fun h => absurd h (by omega)) (fun _ => Tm.now _)
  | succ d ih =>
    intro i hi
    have w := wr i (by omega)
    have nx := ih (i + 1) (by omega)
    refine Tm.step (fun k => by rw [spec_Ascii.l0, w]) ?_
    exact Tm.ite (fun _ => Tm.ite (fun _ => Tm.ite (fun _ => Tm.now _) (fun _ => nx)) (fun h => absurd (by omega) h)) (fun _ => Tm.now _)
/-- Known, and then nothing is signed. -/
theorem known_ev (l : List ByteArray) (hl : l.length < 4611686018427387904) (hs : ∀ s ∈ l, s.size < 4611686018427387904) : ∃ q, Ev (fun k => spec_PyPIKnown.f k false (⟨#[]⟩ : ByteArray) ([] : List S43) false (⟨#[]⟩ : ByteArray) false (⟨#[]⟩ : ByteArray) false (⟨#[]⟩ : ByteArray) false (⟨#[]⟩ : ByteArray) false (⟨#[]⟩ : ByteArray) false (⟨#[]⟩ : ByteArray) l ([] : List ByteArray)) q ∧ (q = true → idK l = true) := by
  have e2 : Ev (fun k => spec_PyPIKnown.l2 k 0 false (⟨#[]⟩ : ByteArray) ([] : List S43) false (⟨#[]⟩ : ByteArray) false (⟨#[]⟩ : ByteArray) false (⟨#[]⟩ : ByteArray) false (⟨#[]⟩ : ByteArray) false (⟨#[]⟩ : ByteArray) false (⟨#[]⟩ : ByteArray) l ([] : List ByteArray)) (idK l) := by
    refine Ev.step (fun k => by rw [spec_PyPIKnown.l2]) ?_
    refine ev_neg (by simp) (letterOK_nil.bind (ev_pos rfl (letterOK_nil.bind (ev_pos rfl (letterOK_nil.bind (ev_pos rfl ((idKnown_ev l hl hs).bind ?_)))))))
    exact Ev.now _
  have e1 : ∀ d i : Nat, i + d = l.length → ∃ q, Ev (fun k => spec_PyPIKnown.l1 k (i : Int) false (⟨#[]⟩ : ByteArray) ([] : List S43) false (⟨#[]⟩ : ByteArray) false (⟨#[]⟩ : ByteArray) false (⟨#[]⟩ : ByteArray) false (⟨#[]⟩ : ByteArray) false (⟨#[]⟩ : ByteArray) false (⟨#[]⟩ : ByteArray) l ([] : List ByteArray)) q ∧ (q = true → idK l = true) := by
    intro d
    induction d with
    | zero =>
      intro i hi
      refine ⟨idK l, ?_, id⟩
      refine Ev.step (fun k => by rw [spec_PyPIKnown.l1]) ?_
      exact ev_neg (by omega) e2
    | succ d ih =>
      intro i hi
      have hlt : i < l.length := by omega
      have r := rdOf_nat ByteArray.empty l i hlt
      have w := wr i (by omega)
      obtain ⟨q, hq, hk⟩ := ih (i + 1) (by omega)
      have sz := hs _ (List.getElem_mem hlt)
      obtain ⟨t, ht⟩ := ascii_tm (l[i]'hlt) sz _ 0 (Nat.zero_add _)
      cases t with
      | true =>
        refine ⟨q, ?_, hk⟩
        refine Ev.step (fun k => by rw [spec_PyPIKnown.l1, r, w]) ?_
        refine ev_pos (by omega) (ev_pos (by omega) (Ev.bind ht ?_))
        exact ev_pos rfl hq
      | false =>
        refine ⟨false, ?_, fun h => by cases h⟩
        refine Ev.step (fun k => by rw [spec_PyPIKnown.l1, r, w]) ?_
        refine ev_pos (by omega) (ev_pos (by omega) (Ev.bind ht ?_))
        exact ev_neg (by simp) (Ev.now _)
  have eInts : Ev (fun k => spec_IntsOK.f k ([] : List S43)) true := by
    unfold spec_IntsOK.f
    refine Ev.step (fun k => by rw [spec_IntsOK.l0]) ?_
    refine ev_neg (by simp) ?_
    exact Ev.now _
  unfold spec_PyPIKnown.f
  cases hn : ((l.length : Int) == 0) with
  | true =>
    refine ⟨false, ?_, fun h => by cases h⟩
    refine tidy_nil.bind (ev_pos rfl (eInts.bind (ev_pos rfl (ev_neg (by simp) ?_))))
    refine Ev.step (fun k => by rw [spec_PyPIKnown.j0]) ?_
    exact ev_pos rfl (Ev.now _)
  | false =>
    obtain ⟨q, hq, hk⟩ := e1 l.length 0 (Nat.zero_add _)
    refine ⟨q, ?_, hk⟩
    refine tidy_nil.bind (ev_pos rfl (eInts.bind (ev_pos rfl (ev_neg (by simp) ?_))))
    refine Ev.step (fun k => by rw [spec_PyPIKnown.j0]) ?_
    refine ev_neg (by simp) ?_
    refine Ev.step (fun k => by rw [spec_PyPIKnown.l0]) ?_
    exact ev_neg (by simp) hq
theorem pl_fit {l : List ByteArray} (h : shortB l = true) : fit l = true := by
  unfold shortB at h
  rw [Bool.and_eq_true, List.all_eq_true, decide_eq_true_eq] at h
  unfold fit
  rw [Bool.and_eq_true, List.all_eq_true]
  refine ⟨decide_eq_true (by omega), fun s hs => decide_eq_true ?_⟩
  have := of_decide_eq_true (h.1 s hs)
  omega
theorem FnPyPILocalOrder : ∀ (l0 : List ByteArray) (l1 : List ByteArray) (l2 : List ByteArray), l0.length ≤ 9223372036854775807 → (∀ s ∈ l0, s.size ≤ 9223372036854775807) → l1.length ≤ 9223372036854775807 → (∀ s ∈ l1, s.size ≤ 9223372036854775807) → l2.length ≤ 9223372036854775807 → (∀ s ∈ l2, s.size ≤ 9223372036854775807) → ∃ k, laws_FnPyPILocalOrder.f k l0 l1 l2 = some true := by
  intro a b c _ _ _ _ _ _
  suffices h : Ev (fun k => laws_FnPyPILocalOrder.f k a b c) true from h.rounds
  have out : Ev (fun k => laws_FnPyPILocalOrder.j0 k a b c true) true := by
    refine Ev.step (fun k => by rw [laws_FnPyPILocalOrder.j0]) ?_
    exact ev_pos rfl (Ev.now _)
  have out1 : Ev (fun k => laws_FnPyPILocalOrder.j1 k a b c true) true := by
    refine Ev.step (fun k => by rw [laws_FnPyPILocalOrder.j1]) ?_
    exact ev_pos rfl (Ev.now _)
  unfold laws_FnPyPILocalOrder.f
  obtain ⟨fa, ea, ha⟩ := fits_ev a
  obtain ⟨fb, eb, hb⟩ := fits_ev b
  obtain ⟨fc, ec, hc⟩ := fits_ev c
  refine ea.bind ?_
  cases fa with
  | false => exact ev_neg (by simp) out
  | true =>
  refine ev_pos rfl (eb.bind ?_)
  cases fb with
  | false => exact ev_neg (by simp) out
  | true =>
  refine ev_pos rfl (ec.bind ?_)
  cases fc with
  | false => exact out
  | true =>
  have la := ha rfl
  have lb := hb rfl
  have lc := hc rfl
  refine Ev.step (fun k => by rw [laws_FnPyPILocalOrder.j0]) ?_
  refine ev_neg (by simp) ((short_ev a (by omega)).bind ?_)
  cases sa : shortB a with
  | false => exact ev_neg (by simp) out1
  | true =>
  refine ev_pos rfl ((short_ev b (by omega)).bind ?_)
  cases sb : shortB b with
  | false => exact ev_neg (by simp) out1
  | true =>
  refine ev_pos rfl ((short_ev c (by omega)).bind ?_)
  cases sc : shortB c with
  | false => exact ev_neg (by simp) out1
  | true =>
  have za : ∀ s ∈ a, s.size < 4611686018427387904 := fun s hs => Nat.lt_of_le_of_lt (short_sizes sa s hs) (by decide)
  have zb : ∀ s ∈ b, s.size < 4611686018427387904 := fun s hs => Nat.lt_of_le_of_lt (short_sizes sb s hs) (by decide)
  have zc : ∀ s ∈ c, s.size < 4611686018427387904 := fun s hs => Nat.lt_of_le_of_lt (short_sizes sc s hs) (by decide)
  obtain ⟨ka, ea, _⟩ := known_ev a (by omega) za
  obtain ⟨kb, eb, _⟩ := known_ev b (by omega) zb
  obtain ⟨kc, ec, _⟩ := known_ev c (by omega) zc
  refine ev_pos rfl (ea.bind ?_)
  cases ka with
  | false => exact ev_neg (by simp) out1
  | true =>
  refine ev_pos rfl (eb.bind ?_)
  cases kb with
  | false => exact ev_neg (by simp) out1
  | true =>
  refine ev_pos rfl (ec.bind ?_)
  cases kc with
  | false => exact out1
  | true =>
  have im : ∀ {x y : List ByteArray}, shortB x = true → shortB y = true → Giv.impl_PyPILocal.f x y = some (lexL Seg.segC (tl x) (tl y)) := fun hx hy => by
    unfold Giv.impl_PyPILocal.f
    rw [if_pos ⟨pl_fit hx, pl_fit hy⟩, pyC_fun]
  refine Ev.step (fun k => by rw [laws_FnPyPILocalOrder.j1]) ?_
  refine ev_neg (by simp) ?_
  have m := lexL_cmp Seg.segC_cmp
  rw [show Giv.laws_pypiAwake.f = some true from rfl, im sa sa, im sa sb, im sb sc, im sa sc]
  refine ev_some (ev_pos rfl (ev_some (ev_pos (m.self _) (ev_some (ev_some (ev_some ?_))))))
  exact (chained_ev (m.chain _ _ _)).bind (Ev.now _)
end Go.Proofs.YtchbfjjeodnocaaDoor.Pure
