/- The statement FnPyPILocal: how two local versions of PyPI compare, and turned round the other way, for all pairs of lists of texts.
   No condition beyond those that the statement itself states (its card ties the listed variables to the program's text). -/
import Derived.Test.YtchbfjjeodnocaaDoorYPshort
import Derived.Test.YtchbfjjeodnocaaDoorYPdg
import Derived.Test.YtchbfjjeodnocaaDoorYPseg
import Derived.Test.YtchbfjjeodnocaaDoorYPon
import Derived.Test.YtchbfjjeodnocaaDoorYPfits
import Derived.Test.YtchbfjjeodnocaaDoorGivPl
import Derived.Test.YtchbfjjeodnocaaDoorQYx
namespace Go.Proofs.YtchbfjjeodnocaaDoor.Pure
open Go.RowKit Go.Proofs.YtchbfjjeodnocaaDoor.QY Go.Proofs.YtchbfjjeodnocaaDoorW.PrintWords Go.Proofs.YtchbfjjeodnocaaDoorW.PrintLast Go.Proofs.YtchbfjjeodnocaaDoor.Pk Go.Proofs.YtchbfjjeodnocaaDoor.Giv Go.Proofs.YtchbfjjeodnocaaDoor.Ord
set_option linter.unusedVariables false
set_option linter.unusedSimpArgs false
theorem orderInts_f (a b : Int) : spec_orderInts.f a b = some (cI a b) := by
  unfold spec_orderInts.f cI
  by_cases h : a < b
  · rw [if_pos h, if_pos h]
  · rw [if_neg h, if_neg h]
    by_cases h2 : b < a
    · rw [if_pos h2, if_pos h2]
    · rw [if_neg h2, if_neg h2]
theorem tidy_nil : Ev (fun k => spec_IntOK.f k false (⟨#[]⟩ : ByteArray)) true := by
  unfold spec_IntOK.f
  have t : Ev (fun k => spec_numTidy.f k false (⟨#[]⟩ : ByteArray)) (false, (⟨#[]⟩ : ByteArray)) := by
    unfold spec_numTidy.f
    refine Ev.step (fun k => by rw [spec_numTidy.l0]) ?_
    refine ev_neg (by decide) (ev_neg (by simp) ?_)
    exact Ev.now _
  refine t.bind ?_
  rw [show ((false == false) && ((⟨#[]⟩ : ByteArray).toList == (⟨#[]⟩ : ByteArray).toList)) = true by simp]
  exact Ev.now _
theorem letterOK_nil : Ev (fun k => spec_pypiLetterOK.f k false (⟨#[]⟩ : ByteArray) false (⟨#[]⟩ : ByteArray)) true := by
  unfold spec_pypiLetterOK.f
  have t : Ev (fun k => spec_Ascii.f k (⟨#[]⟩ : ByteArray)) true := by
    unfold spec_Ascii.f
    refine Ev.step (fun k => by rw [spec_Ascii.l0]) ?_
    refine ev_neg (by decide) ?_
    exact Ev.now _
  refine tidy_nil.bind (ev_pos rfl (ev_neg (by simp) (t.bind (ev_pos rfl (ev_neg (by simp) ?_)))))
  exact Ev.now _
theorem ascii_tm (s : ByteArray) (hs : s.size < 4611686018427387904) (d : Nat) : ∀ i : Nat, i + d = s.size → Tm (fun k => spec_Ascii.l0 k s (i : Int)) := by
  induction d with
  | zero =>
    intro i hi
    refine Tm.step (fun k => by rw [spec_Ascii.l0]) ?_
    exact Tm.ite (fun h => absurd h (by omega)) (fun _ => Tm.now _)
  | succ d ih =>
    intro i hi
    have w := wr i (by omega)
    have nx := ih (i + 1) (by omega)
    refine Tm.step (fun k => by rw [spec_Ascii.l0, w]) ?_
    exact Tm.ite (fun _ => Tm.ite (fun _ => Tm.ite (fun _ => Tm.now _) (fun _ => nx)) (fun h => absurd (by omega) h)) (fun _ => Tm.now _)
/-- Known, and then nothing is signed. -/
theorem known_ev (l : List ByteArray) (hl : l.length < 4611686018427387904) (hs : ∀ s ∈ l, s.size < 4611686018427387904) : ∃ q, Ev (fun k => spec_PyPIKnown.f k false (⟨#[]⟩ : ByteArray) ([] : List S43) false (⟨#[]⟩ : ByteArray) false (⟨#[]⟩ : ByteArray) false (⟨#[]⟩ : ByteArray) false (⟨#[]⟩ : ByteArray) false (⟨#[]⟩ : ByteArray) false (⟨#[]⟩ : ByteArray) l ([] : List ByteArray)) q ∧ (q = true → idK l = true) := by
  have e2 : Ev (fun k => spec_PyPIKnown.l2 k 0 false (⟨#[]⟩ : ByteArray) ([] : List S43) false (⟨#[]⟩ : ByteArray) false (⟨#[]⟩ : ByteArray) false (⟨#[]⟩ : ByteArray) false (⟨#[]⟩ : ByteArray) false (⟨#[]⟩ : ByteArray) false (⟨#[]⟩ : ByteArray) l ([] : List ByteArray)) (idK l) := by
    refine Ev.step (fun k => by rw [spec_PyPIKnown.l2]) ?_
    refine ev_neg (by simp) (letterOK_nil.bind (ev_pos rfl (letterOK_nil.bind (ev_pos rfl (letterOK_nil.bind (ev_pos rfl ((idKnown_ev l hl hs).bind ?_)))))))
    exact Ev.now _
  have e1 : ∀ d i : Nat, i + d = l.length → ∃ q, Ev (fun k => spec_PyPIKnown.l1 k (i : Int) false (⟨#[]⟩ : ByteArray) ([] : List S43) false (⟨#[]⟩ : ByteArray) false (⟨#[]⟩ : ByteArray) false (⟨#[]⟩ : ByteArray) false (⟨#[]⟩ : ByteArray) false (⟨#[]⟩ : ByteArray) false (⟨#[]⟩ : ByteArray) l ([] : List ByteArray)) q ∧ (q = true → idK l = true) := by
    intro d
    induction d with
    | zero =>
      intro i hi
      refine ⟨idK l, ?_, id⟩
      refine Ev.step (fun k => by rw [spec_PyPIKnown.l1]) ?_
      exact ev_neg (by omega) e2
    | succ d ih =>
      intro i hi
      have hlt : i < l.length := by omega
      have r := rdOf_nat ByteArray.empty l i hlt
      have w := wr i (by omega)
      obtain ⟨q, hq, hk⟩ := ih (i + 1) (by omega)
      have sz := hs _ (List.getElem_mem hlt)
      obtain ⟨t, ht⟩ := ascii_tm (l[i]'hlt) sz _ 0 (Nat.zero_add _)
      cases t with
      | true =>
        refine ⟨q, ?_, hk⟩
        refine Ev.step (fun k => by rw [spec_PyPIKnown.l1, r, w]) ?_
        refine ev_pos (by omega) (ev_pos (by omega) (Ev.bind ht ?_))
        exact ev_pos rfl hq
      | false =>
        refine ⟨false, ?_, fun h => by cases h⟩
        refine Ev.step (fun k => by rw [spec_PyPIKnown.l1, r, w]) ?_
        refine ev_pos (by omega) (ev_pos (by omega) (Ev.bind ht ?_))
        exact ev_neg (by simp) (Ev.now _)
  have eInts : Ev (fun k => spec_IntsOK.f k ([] : List S43)) true := by
    unfold spec_IntsOK.f
    refine Ev.step (fun k => by rw [spec_IntsOK.l0]) ?_
    refine ev_neg (by simp) ?_
    exact Ev.now _
  unfold spec_PyPIKnown.f
  cases hn : ((l.length : Int) == 0) with
  | true =>
    refine ⟨false, ?_, fun h => by cases h⟩
    refine tidy_nil.bind (ev_pos rfl (eInts.bind (ev_pos rfl (ev_neg (by simp) ?_))))
    refine Ev.step (fun k => by rw [spec_PyPIKnown.j0]) ?_
    exact ev_pos rfl (Ev.now _)
  | false =>
    obtain ⟨q, hq, hk⟩ := e1 l.length 0 (Nat.zero_add _)
    refine ⟨q, ?_, hk⟩
    refine tidy_nil.bind (ev_pos rfl (eInts.bind (ev_pos rfl (ev_neg (by simp) ?_))))
    refine Ev.step (fun k => by rw [spec_PyPIKnown.j0]) ?_
    refine ev_neg (by simp) ?_
    refine Ev.step (fun k => by rw [spec_PyPIKnown.l0]) ?_
    exact ev_neg (by simp) hq
theorem lp_loop (a b : List ByteArray) (hla : a.length < 4611686018427387904) (hlb : b.length < 4611686018427387904) (hsa : ∀ s ∈ a, s.size < 4611686018427387904) (hsb : ∀ s ∈ b, s.size < 4611686018427387904) (d : Nat) : ∀ i : Nat, i + d = min a.length b.length → Ev (fun k => spec_PyPILocal.l0 k a b (i : Int)) (lexL Seg.segS ((tl a).drop i) ((tl b).drop i)) := by
  induction d with
  | zero =>
    intro i hi
    have le := lo_end Seg.segS (tl a) (tl b) i (by rw [tl_len, tl_len]; omega)
    rw [tl_len, tl_len] at le
    rw [le]
    have j1 : Ev (fun k => spec_PyPILocal.j1 k a b (i : Int) false) (cI a.length b.length) := by
      refine Ev.step (fun k => by rw [spec_PyPILocal.j1]) ?_
      refine ev_neg (by simp) ?_
      rw [orderInts_f]
      exact ev_some (Ev.now _)
    refine Ev.step (fun k => by rw [spec_PyPILocal.l0]) ?_
    by_cases h : i < a.length
    · refine ev_pos (by omega) ?_
      rw [decide_eq_false (by omega)]
      exact j1
    · exact ev_neg (by omega) j1
  | succ d ih =>
    intro i hi
    have ka : i < a.length := by omega
    have kb : i < b.length := by omega
    have w := wr i (by omega)
    have nx := ih (i + 1) (by omega)
    have st := lo_drop Seg.segS (tl a) (tl b) i (by rw [tl_len]; exact ka) (by rw [tl_len]; exact kb)
    have gx : (tl a)[i]'(by rw [tl_len]; exact ka) = (a[i]'ka).toList := by simp [tl]
    have gy : (tl b)[i]'(by rw [tl_len]; exact kb) = (b[i]'kb).toList := by simp [tl]
    rw [gx, gy] at st
    rw [st]
    have r1 := rdOf_nat ByteArray.empty a i ka
    have r2 := rdOf_nat ByteArray.empty b i kb
    have sx := hsa _ (List.getElem_mem ka)
    have sy := hsb _ (List.getElem_mem kb)
    clear st gx gy ih
    generalize a[i]'ka = x at *
    generalize b[i]'kb = y at *
    generalize lexL Seg.segS ((tl a).drop (i + 1)) ((tl b).drop (i + 1)) = V at *
    rw [← w] at nx
    have fin : ∀ t : Int, Ev (fun k => if t = 0 then spec_PyPILocal.l0 k a b (wrap64 ((i : Int) + 1)) else some t) (if t = 0 then V else t) := by
      intro t
      by_cases z : t = 0
      · have e : (if t = 0 then V else t) = V := if_pos z
        rw [e]
        exact ev_pos z nx
      · have e : (if t = 0 then V else t) = t := if_neg z
        rw [e]
        exact ev_neg z (Ev.now _)
    have dx := allDigits_ev x sx
    have dy := allDigits_ev y sy
    refine Ev.step (fun k => by rw [spec_PyPILocal.l0]) ?_
    refine ev_pos (by omega) ?_
    rw [decide_eq_true (by omega)]
    refine Ev.step (fun k => by rw [spec_PyPILocal.j1, r1, r2]) ?_
    refine ev_pos rfl (ev_pos (by omega) (ev_pos (by omega) (dx.bind (ev_pos (by omega) (dy.bind ?_)))))
    cases hx : Num.digits x.toList with
    | true =>
      refine ev_pos rfl ?_
      cases hy : Num.digits y.toList with
      | true =>
        have e : Seg.segS x.toList y.toList = Rpm.numC x.toList y.toList := by
          unfold Seg.segS
          rw [hx, hy]
          rfl
        rw [e]
        refine Ev.step (fun k => by rw [spec_PyPILocal.j2, r1, r2]) ?_
        refine ev_pos rfl (ev_pos (by omega) (ev_pos (by omega) (ev_pos (by omega) ((orderNumbers_ev x y sx sy).bind ?_))))
        exact fin _
      | false =>
        have e : (if Seg.segS x.toList y.toList = 0 then V else Seg.segS x.toList y.toList) = 1 := by
          unfold Seg.segS
          rw [hx, hy]
          rfl
        rw [e]
        refine Ev.step (fun k => by rw [spec_PyPILocal.j2, r1, r2]) ?_
        exact ev_neg (by simp) (ev_pos rfl (ev_neg (by decide) (Ev.now _)))
    | false =>
      refine ev_neg (by simp) ?_
      cases hy : Num.digits y.toList with
      | true =>
        have e : (if Seg.segS x.toList y.toList = 0 then V else Seg.segS x.toList y.toList) = -1 := by
          unfold Seg.segS
          rw [hx, hy]
          rfl
        rw [e]
        refine Ev.step (fun k => by rw [spec_PyPILocal.j2, r1, r2]) ?_
        exact ev_neg (by simp) (ev_neg (by simp) (ev_pos rfl (ev_neg (by decide) (Ev.now _))))
      | false =>
        have e : Seg.segS x.toList y.toList = cS x.toList y.toList := by
          unfold Seg.segS
          rw [hx, hy]
          rfl
        rw [e]
        refine Ev.step (fun k => by rw [spec_PyPILocal.j2, r1, r2]) ?_
        refine ev_neg (by simp) (ev_neg (by simp) (ev_neg (by simp) (ev_pos (by omega) (ev_pos (by omega) (ev_pos (by omega) ?_)))))
        have so : Giv.spec_order.f x y = some (cS x.toList y.toList) := rfl
        rw [so]
        exact ev_some (fin _)
theorem lex_same {a b : List (List UInt8)} (ha : ∀ x ∈ a, Seg.signed x = false) (hb : ∀ x ∈ b, Seg.signed x = false) : lexL Seg.segS a b = lexL Seg.segC a b := by
  induction a generalizing b with
  | nil => cases b <;> rfl
  | cons x xs ih =>
    cases b with
    | nil => rfl
    | cons y ys =>
      have e := Seg.segS_eq (ha x (by simp)) (hb y (by simp))
      have t := ih (b := ys) (fun z hz => ha z (List.mem_cons_of_mem _ hz)) (fun z hz => hb z (List.mem_cons_of_mem _ hz))
      simp only [lexL]
      rw [e, t]
theorem pl_fit {l : List ByteArray} (h : shortB l = true) : fit l = true := by
  unfold shortB at h
  rw [Bool.and_eq_true, List.all_eq_true, decide_eq_true_eq] at h
  unfold fit
  rw [Bool.and_eq_true, List.all_eq_true]
  refine ⟨decide_eq_true (by omega), fun s hs => decide_eq_true ?_⟩
  have := of_decide_eq_true (h.1 s hs)
  omega
theorem FnPyPILocal : ∀ (l0 : List ByteArray) (l1 : List ByteArray), l0.length ≤ 9223372036854775807 → (∀ s ∈ l0, s.size ≤ 9223372036854775807) → l1.length ≤ 9223372036854775807 → (∀ s ∈ l1, s.size ≤ 9223372036854775807) → ∃ k, laws_FnPyPILocal.f k l0 l1 = some true := by
  intro a b _ _ _ _
  suffices h : Ev (fun k => laws_FnPyPILocal.f k a b) true from h.rounds
  have out : Ev (fun k => laws_FnPyPILocal.j0 k a b true) true := by
    refine Ev.step (fun k => by rw [laws_FnPyPILocal.j0]) ?_
    exact ev_pos rfl (Ev.now _)
  have out1 : Ev (fun k => laws_FnPyPILocal.j1 k a b true) true := by
    refine Ev.step (fun k => by rw [laws_FnPyPILocal.j1]) ?_
    exact ev_pos rfl (Ev.now _)
  unfold laws_FnPyPILocal.f
  obtain ⟨qa, fa, la⟩ := fits_ev a
  obtain ⟨qb, fb, lb⟩ := fits_ev b
  refine fa.bind ?_
  cases qa with
  | false => exact ev_neg (by simp) out
  | true =>
  refine ev_pos rfl (fb.bind ?_)
  cases qb with
  | false => exact out
  | true =>
  have la := la rfl
  have lb := lb rfl
  refine Ev.step (fun k => by rw [laws_FnPyPILocal.j0]) ?_
  refine ev_neg (by simp) ((short_ev a (by omega)).bind ?_)
  cases sa : shortB a with
  | false => exact ev_neg (by simp) out1
  | true =>
  refine ev_pos rfl ((short_ev b (by omega)).bind ?_)
  cases sb : shortB b with
  | false => exact ev_neg (by simp) out1
  | true =>
  have za : ∀ s ∈ a, s.size < 4611686018427387904 := fun s hs => Nat.lt_of_le_of_lt (short_sizes sa s hs) (by decide)
  have zb : ∀ s ∈ b, s.size < 4611686018427387904 := fun s hs => Nat.lt_of_le_of_lt (short_sizes sb s hs) (by decide)
  obtain ⟨ka, ea, ia⟩ := known_ev a (by omega) za
  obtain ⟨kb, eb, ib⟩ := known_ev b (by omega) zb
  refine ev_pos rfl (ea.bind ?_)
  cases ka with
  | false => exact ev_neg (by simp) out1
  | true =>
  refine ev_pos rfl (eb.bind ?_)
  cases kb with
  | false => exact out1
  | true =>
  have i1 : Giv.impl_PyPILocal.f a b = some (lexL Seg.segC (tl a) (tl b)) := by
    unfold Giv.impl_PyPILocal.f
    rw [if_pos ⟨pl_fit sa, pl_fit sb⟩, pyC_fun]
  have i2 : Giv.impl_PyPILocal.f b a = some (lexL Seg.segC (tl b) (tl a)) := by
    unfold Giv.impl_PyPILocal.f
    rw [if_pos ⟨pl_fit sb, pl_fit sa⟩, pyC_fun]
  have sp := lp_loop a b (by omega) (by omega) za zb _ 0 (Nat.zero_add _)
  rw [List.drop_zero, List.drop_zero, lex_same (idK_tl (ia rfl)) (idK_tl (ib rfl))] at sp
  have m := lexL_cmp Seg.segC_cmp
  have t : laws_turned.f (lexL Seg.segC (tl a) (tl b)) (lexL Seg.segC (tl b) (tl a)) = some true := by
    have f := m.flip (tl a) (tl b)
    have g := m.rng (tl a) (tl b)
    generalize lexL Seg.segC (tl a) (tl b) = r at *
    generalize lexL Seg.segC (tl b) (tl a) = q at *
    unfold laws_turned.f
    have w : wrap64 (-q) = r := by unfold wrap64; omega
    rw [w, if_pos rfl, if_pos (by omega), decide_eq_true (by omega)]
  refine Ev.step (fun k => by rw [laws_FnPyPILocal.j1, i1, i2]) ?_
  refine ev_neg (by simp) (ev_some (Ev.bind sp (ev_pos rfl (ev_some ?_))))
  rw [t]
  exact ev_some (Ev.now _)
end Go.Proofs.YtchbfjjeodnocaaDoor.Pure
