/- Several texts of this claim in one. Put together by wip/tool/merge.py. -/
import Derived.Test.YtnbpoplomdocjaaGreatDoorZD
import Derived.Test.YtnbpoplomdocjaaGreatDoorQXx
import Derived.Test.YtnbpoplomdocjaaGreatDoorZMX
/- 'short': of lists of texts. -/
namespace Go.Proofs.YtnbpoplomdocjaaGreatDoor.QX
open Go.RowKit Go.Proofs.YtnbpoplomdocjaaGreatDoorW.PrintWords Go.Proofs.YtnbpoplomdocjaaGreatDoorW.PrintLast Go.Proofs.YtnbpoplomdocjaaGreatDoor.Pk Go.Proofs.YtnbpoplomdocjaaGreatDoor.Giv
set_option linter.unusedVariables false

/-- Are all texts short, and not many of them? -/
def shortB (l : List ByteArray) : Bool := l.all (fun s => decide (s.size ≤ 1500)) && decide (l.length ≤ 150)
theorem short_loop (l : List ByteArray) (hl : l.length < 4611686018427387904) (d : Nat) : ∀ i : Nat, i + d = l.length → Ev (fun k => laws_short.l0 k l l (l.length : Int) (i : Int)) ((l.drop i).all (fun s => decide (s.size ≤ 1500)) && decide (l.length ≤ 150)) := by
  induction d with
  | zero =>
    intro i hi
    refine Ev.step (fun k => by rw [laws_short.l0]) ?_
    refine ev_neg (by omega) ?_
    rw [List.drop_of_length_le (by omega)]
    have e : decide ((l.length : Int) ≤ 150) = ([].all (fun s : ByteArray => decide (s.size ≤ 1500)) && decide (l.length ≤ 150)) := by
      rw [List.all_nil, Bool.true_and, decide_eq_decide]
      omega
    rw [← e]
    exact Ev.now _
  | succ d ih =>
    intro i hi
    have hlt : i < l.length := by omega
    have r := rdOf_nat ByteArray.empty l i hlt
    have w := wr i (by omega)
    refine Ev.step (fun k => by rw [laws_short.l0, r, w]) ?_
    refine ev_pos (by omega) (ev_pos (by omega) (ev_pos (by omega) ?_))
    rw [List.drop_eq_getElem_cons hlt, List.all_cons]
    by_cases h : ((l[i].size : Int)) > 1500
    · refine ev_pos h ?_
      have e : decide (l[i].size ≤ 1500) = false := by rw [decide_eq_false_iff_not]; omega
      rw [e]
      exact Ev.now _
    · refine ev_neg h ?_
      have e : decide (l[i].size ≤ 1500) = true := by rw [decide_eq_true_eq]; omega
      rw [e, Bool.true_and]
      exact ih (i + 1) (by omega)
theorem short_ev (l : List ByteArray) (hl : l.length < 4611686018427387904) : Ev (fun k => laws_short.f k l) (shortB l) := short_loop l hl l.length 0 (by omega)
theorem short_sizes {l : List ByteArray} (h : shortB l = true) : ∀ s ∈ l, s.size ≤ 1500 := by
  unfold shortB at h
  rw [Bool.and_eq_true, List.all_eq_true] at h
  intro s hs
  simpa using h.1 s hs
end Go.Proofs.YtnbpoplomdocjaaGreatDoor.QX
/- The statement FnMixed: versions of two kinds do not compare, and those of one kind as this kind's do.
   No condition beyond those that the statement itself states (its card ties the listed variables to the program's text). -/
namespace Go.Proofs.YtnbpoplomdocjaaGreatDoor.Pure
open Go.RowKit Go.Proofs.YtnbpoplomdocjaaGreatDoor.QX Go.Proofs.YtnbpoplomdocjaaGreatDoorW.PrintWords Go.Proofs.YtnbpoplomdocjaaGreatDoorW.PrintLast Go.Proofs.YtnbpoplomdocjaaGreatDoor.Pk Go.Proofs.YtnbpoplomdocjaaGreatDoor.Giv Go.Proofs.YtnbpoplomdocjaaGreatDoor.Ord
set_option linter.unusedVariables false
set_option linter.unusedSimpArgs false
theorem md_cases (k : Int) (s : ByteArray) : mdOf k s = .bad ∨ (k = 0 ∧ ∃ p, mdOf k s = .deb p) ∨ (k = 1 ∧ ∃ x, mdOf k s = .red x) ∨ (k = 2 ∧ ∃ zs, mdOf k s = .cran zs) ∨ (k = 3 ∧ ∃ t, mdOf k s = .ruby t) := by
  by_cases h0 : k = 0
  · subst h0
    rw [md0]
    cases dvL s.toList with
    | none => exact .inl rfl
    | some p => exact .inr (.inl ⟨rfl, p, rfl⟩)
  · by_cases h1 : k = 1
    · subst h1
      rw [md1]
      exact .inr (.inr (.inl ⟨rfl, _, rfl⟩))
    · by_cases h2 : k = 2
      · subst h2
        rw [md2]
        cases crN s with
        | none => exact .inl rfl
        | some zs => exact .inr (.inr (.inr (.inl ⟨rfl, zs, rfl⟩)))
      · by_cases h3 : k = 3
        · subst h3
          rw [md3]
          exact .inr (.inr (.inr (.inr ⟨rfl, _, rfl⟩)))
        · refine .inl ?_
          unfold mdOf
          rw [if_neg h0, if_neg h1, if_neg h2, if_neg h3]
/-- Two kinds, or none of the four: no order. -/
theorem mix_two (k o : Int) (a b : ByteArray) (h : k ≠ o ∨ k < 0 ∨ 3 < k) : mixR (mdOf k a) (mdOf o b) = (0, false) := by
  rcases md_cases k a with e | ⟨rfl, p, e⟩ | ⟨rfl, x, e⟩ | ⟨rfl, zs, e⟩ | ⟨rfl, t, e⟩
  · rw [e, mixR_bad]
  all_goals
    rw [e]
    rcases md_cases o b with f | ⟨g, q, f⟩ | ⟨g, q, f⟩ | ⟨g, q, f⟩ | ⟨g, q, f⟩
    all_goals
      rw [f]
      first | rfl | (exfalso; omega)
theorem spec_two (k o : Int) (a b : ByteArray) (h : k ≠ o ∨ k < 0 ∨ 3 < k) : spec_Mixed.f k a o b = some (0, false) := by
  unfold spec_Mixed.f
  by_cases e : k = o
  · rw [if_pos e, if_neg (by omega), if_neg (by omega), if_neg (by omega), if_neg (by omega)]
  · rw [if_neg e]
theorem t1 : (⟨#[49]⟩ : ByteArray).toList = [49] := by rw [toList_eq']
theorem t2 : (⟨#[50]⟩ : ByteArray).toList = [50] := by rw [toList_eq']
theorem d1 : dvL [49] = some (0, [49], [48]) := by decide +kernel
theorem d2 : dvL [50] = some (0, [50], [48]) := by decide +kernel
theorem dc12 : dcA [49] [50] = -1 := by decide +kernel
theorem dv12 : dvA (0, [49], [48]) (0, [50], [48]) = -1 := by
  unfold dvA
  rw [if_pos (cI_cmp.self _), dc12, if_neg (by decide)]
theorem one_two : mixR (mdOf 0 ⟨#[49]⟩) (mdOf 0 ⟨#[50]⟩) = (-1, true) := by
  rw [md0, md0, t1, t2, d1, d2]
  show (dvA (0, [49], [48]) (0, [50], [48]), true) = _
  rw [dv12]
theorem mix12 : Giv.impl_Mixed.f 0 ⟨#[49]⟩ 0 ⟨#[50]⟩ = some (-1, true) := by
  unfold Giv.impl_Mixed.f
  rw [if_pos ⟨by decide, by decide⟩, one_two]
theorem awake : laws_debianAwake.f = some true := by
  unfold laws_debianAwake.f Giv.mx_DebianCompare.f Giv.mx_DebianParts.f Giv.impl_DebianParts.f
  rw [if_pos ⟨by decide, by decide⟩, one_two, t1, t2, if_pos ⟨by decide, by decide⟩, dc12]
  rfl
/-- Two kinds, or none of the four. -/
theorem two_ev (k o : Int) (a b : ByteArray) (h : k ≠ o ∨ k < 0 ∨ 3 < k) : Ev (fun n => laws_FnMixed.j1 n k a o b 0 false true) true := by
  refine Ev.step (fun n => by rw [laws_FnMixed.j1]) ?_
  refine ev_pos rfl ?_
  rw [mix12, spec_two k o a b h]
  exact Ev.now _
/-- One kind. -/
theorem one_ev (k : Int) (a b : ByteArray) (ha : a.size ≤ 1500) (hb : b.size ≤ 1500) (h0 : 0 ≤ k) (h3 : k ≤ 3) : Ev (fun n => laws_FnMixed.j1 n k a k b (mixR (mdOf k a) (mdOf k b)).1 (mixR (mdOf k a) (mdOf k b)).2 false) true := by
  have hs : a.size ≤ 1500 ∧ b.size ≤ 1500 := ⟨ha, hb⟩
  refine Ev.step (fun n => by rw [laws_FnMixed.j1]) ?_
  refine ev_neg (by simp) ?_
  rw [awake]
  by_cases e0 : k = 0
  · subst e0
    refine ev_pos rfl ?_
    unfold Giv.mx_DebianCompare.f
    rw [if_pos hs]
    exact ev_some (ev_pos rfl (ev_pos (by simp) (Ev.now _)))
  · refine ev_neg e0 ?_
    by_cases e1 : k = 1
    · subst e1
      refine ev_pos rfl ?_
      unfold Giv.mx_RedHatCompare.f
      rw [if_pos hs]
      exact ev_some (ev_pos rfl (ev_pos (by simp) (Ev.now _)))
    · refine ev_neg e1 ?_
      by_cases e2 : k = 2
      · subst e2
        refine ev_pos rfl ?_
        unfold Giv.mx_CRANCompare.f
        rw [if_pos hs]
        exact ev_some (ev_pos rfl (ev_pos (by simp) (Ev.now _)))
      · refine ev_neg e2 ?_
        obtain rfl : k = 3 := by omega
        unfold Giv.mx_RubyCompare.f
        rw [if_pos hs]
        exact ev_some (ev_pos rfl (ev_pos (by simp) (Ev.now _)))
theorem skip_ev (k o : Int) (a b : ByteArray) : Ev (fun n => laws_FnMixed.j0 n k a o b true) true := by
  refine Ev.step (fun n => by rw [laws_FnMixed.j0]) ?_
  exact ev_pos rfl (Ev.now _)
theorem small_ev (k o : Int) (a b : ByteArray) : Ev (fun n => laws_FnMixed.j0 n k a o b false) true := by
  refine Ev.step (fun n => by rw [laws_FnMixed.j0]) ?_
  refine ev_neg (by simp) ((short_ev [a, b] (by simp)).bind ?_)
  cases hs : shortB [a, b] with
  | false => exact ev_neg (by simp) (Ev.now _)
  | true =>
    refine ev_pos rfl ?_
    have ha := short_sizes hs a (by simp)
    have hb := short_sizes hs b (by simp)
    unfold Giv.impl_Mixed.f
    rw [if_pos ⟨ha, hb⟩]
    refine ev_some ?_
    by_cases e : k = o
    · subst e
      refine ev_pos rfl ?_
      by_cases n0 : k < 0
      · refine ev_pos n0 ?_
        rw [mix_two k k a b (.inr (.inl n0))]
        exact two_ev k k a b (.inr (.inl n0))
      · refine ev_neg n0 ?_
        by_cases n3 : k > 3
        · rw [decide_eq_true n3, mix_two k k a b (.inr (.inr n3))]
          exact two_ev k k a b (.inr (.inr n3))
        · rw [decide_eq_false n3]
          exact one_ev k a b ha hb (by omega) (by omega)
    · refine ev_neg e ?_
      rw [mix_two k o a b (.inl e)]
      exact two_ev k o a b (.inl e)
theorem FnMixed : laws_FnMixed.Pure := by
  intro a0 a1 a2 a3 _ h1 _ h3
  have key : Ev (fun n => laws_FnMixed.f n a0 a1 a2 a3) true := by
    unfold laws_FnMixed.f
    by_cases b1 : (a1.size : Int) > 2147483647
    · exact ev_pos b1 (skip_ev _ _ _ _)
    · refine ev_neg b1 ?_
      by_cases b3 : (a3.size : Int) > 2147483647
      · rw [decide_eq_true b3]
        exact skip_ev _ _ _ _
      · rw [decide_eq_false b3]
        exact small_ev _ _ _ _
  obtain ⟨n, hn⟩ := key
  exact ⟨n, hn n (Nat.le_refl _)⟩
end Go.Proofs.YtnbpoplomdocjaaGreatDoor.Pure
