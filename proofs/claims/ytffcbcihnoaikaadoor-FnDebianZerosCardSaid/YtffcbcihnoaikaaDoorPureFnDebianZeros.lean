/- The statement FnDebianZeros: zeros ahead of numbers change no Debian version.
   No condition beyond those that the statement itself states (its card ties the listed variables to the program's text). -/
import Derived.Test.YtffcbcihnoaikaaDoorZZP
import Derived.Test.YtffcbcihnoaikaaDoorQZx
namespace Go.Proofs.YtffcbcihnoaikaaDoor.Pure
open Go.RowKit Go.Proofs.YtffcbcihnoaikaaDoor.QZ Go.Proofs.YtffcbcihnoaikaaDoorW.PrintWords Go.Proofs.YtffcbcihnoaikaaDoorW.PrintLast Go.Proofs.YtffcbcihnoaikaaDoor.Pk Go.Proofs.YtffcbcihnoaikaaDoor.Giv Go.Proofs.YtffcbcihnoaikaaDoor.Ord
set_option linter.unusedVariables false
set_option linter.unusedSimpArgs false
theorem zer_plain {more : List UInt8} : ∀ (l : List UInt8) (o : Bool), l.all (fun c => alnum c || more.contains c) = true → (Deb.zer o l).all (fun c => alnum c || more.contains c) = true
  | [], o, _ => by cases o <;> rfl
  | c :: r, o, h => by
    rw [List.all_cons, Bool.and_eq_true] at h
    have ht := zer_plain r true h.2
    have hf := zer_plain r false h.2
    have z : (alnum 48 || more.contains 48) = true := by
      rw [show alnum 48 = true by decide, Bool.true_or]
    rw [Deb.zer_cons]
    split
    · split
      · rw [List.all_cons, h.1, ht]; rfl
      · rw [List.all_cons, List.all_cons, z, h.1, ht]; rfl
    · rw [List.all_cons, h.1, hf]; rfl
theorem zer_plainB {more l : List UInt8} (h : plainB more l = true) : plainB more (Deb.zer false l) = true := by
  unfold plainB at h ⊢
  rw [Bool.and_eq_true] at h ⊢
  refine ⟨zer_plain l false h.1, ?_⟩
  cases l with
  | nil => simp at h
  | cons c r =>
    rw [Deb.zer_cons]
    split
    · rw [if_neg (by simp)]; rfl
    · rfl
theorem zer_okB : ∀ (l : List UInt8) (o : Bool), (∀ c ∈ l, c.toNat < 128 ∧ c.toNat ≠ 0) → ∀ c ∈ Deb.zer o l, c.toNat < 128 ∧ c.toNat ≠ 0
  | [], o, _ => by cases o <;> simp [Deb.zer]
  | c :: r, o, h => by
    have hc := h c (List.mem_cons_self ..)
    have ht := zer_okB r true (fun x hx => h x (List.mem_cons_of_mem _ hx))
    have hf := zer_okB r false (fun x hx => h x (List.mem_cons_of_mem _ hx))
    rw [Deb.zer_cons]
    intro x hx
    split at hx
    · split at hx
      · rcases List.mem_cons.1 hx with rfl | hx
        · exact hc
        · exact ht x hx
      · rcases List.mem_cons.1 hx with rfl | hx
        · decide
        · rcases List.mem_cons.1 hx with rfl | hx
          · exact hc
          · exact ht x hx
    · rcases List.mem_cons.1 hx with rfl | hx
      · exact hc
      · exact hf x hx
theorem FnDebianZeros : laws_FnDebianZeros.Pure := by
  intro a0 a1 h0 h1
  rw [bs_of a0, bs_of a1] at *
  rw [bs_size] at h0 h1
  generalize a0.toList = a at *
  generalize a1.toList = b at *
  refine Ev.rounds (g := fun k => laws_FnDebianZeros.f k (bs a) (bs b)) ?_
  unfold laws_FnDebianZeros.f
  have yes : ∀ x0 x1, Ev (fun k => laws_FnDebianZeros.j0 k x0 x1 true) true := fun x0 x1 => by
    refine Ev.step (fun k => by rw [laws_FnDebianZeros.j0]) ?_
    exact ev_pos rfl (Ev.now _)
  have skip : ∀ x0 x1, Ev (fun k => laws_FnDebianZeros.j1 k x0 x1 true) true := fun x0 x1 => by
    refine Ev.step (fun k => by rw [laws_FnDebianZeros.j1]) ?_
    exact ev_pos rfl (Ev.now _)
  rw [bs_size, bs_size]
  by_cases g0 : (a.length : Int) > 2147483647
  · exact ev_pos g0 (yes _ _)
  · refine ev_neg g0 ?_
    by_cases g1 : (b.length : Int) > 2147483647
    · rw [decide_eq_true g1]
      exact yes _ _
    · rw [decide_eq_false g1]
      refine Ev.step (fun k => by rw [laws_FnDebianZeros.j0]) ?_
      refine ev_neg (by simp) ((short_ev [bs a, bs b] (by simp)).bind ?_)
      cases hs : shortB [bs a, bs b] with
      | false => exact ev_neg (by simp) (skip _ _)
      | true =>
        have z0 := short_sizes hs (bs a) (by simp)
        have z1 := short_sizes hs (bs b) (by simp)
        have y0 := z0
        rw [bs_size] at z0 z1
        have pe : (⟨#[46, 43, 126, 45]⟩ : ByteArray) = bs [46, 43, 126, 45] := rfl
        refine ev_pos rfl ((plain_ev [46, 43, 126, 45] a (by decide) (by omega)).bind ?_)
        cases pa : plainB [46, 43, 126, 45] a with
        | false => exact ev_neg (by simp) (skip _ _)
        | true =>
          refine ev_pos rfl ((plain_ev [46, 43, 126, 45] b (by decide) (by omega)).bind ?_)
          cases pb : plainB [46, 43, 126, 45] b with
          | false => exact ev_neg (by simp) (skip _ _)
          | true =>
            refine ev_pos rfl ((known_ev a (by omega)).bind ?_)
            cases ka : knownB a with
            | false => exact ev_neg (by simp) (skip _ _)
            | true =>
              refine ev_pos rfl ((known_ev b (by omega)).bind ?_)
              cases kb : knownB b with
              | false => exact skip _ _
              | true =>
                have oa := knownB_okB ka (by omega)
                have ob := knownB_okB kb (by omega)
                have zl := Deb.zer_len a false
                have oz : okB (Deb.zer false a) = true := by
                  unfold okB
                  rw [Bool.and_eq_true, List.all_eq_true]
                  exact ⟨decide_eq_true (by omega), fun c hc => decide_eq_true (zer_okB a false (okB_mem oa) c hc)⟩
                have da := plain_dv pa (by decide) (by decide)
                have db := plain_dv pb (by decide) (by decide)
                have dz := plain_dv (zer_plainB pa) (by decide) (by decide)
                have zz := zeroed_ev (bs a) y0
                rw [bs_toList] at zz
                have e0 := Deb.urv_zer a 0
                refine Ev.step (fun k => by rw [laws_FnDebianZeros.j1]) ?_
                refine ev_neg (by simp) (zz.bind ?_)
                rw [dcF oa oz da dz, dcF oa ob da db]
                refine ev_some (ev_some (zz.bind ?_))
                rw [dcF oz ob dz db]
                refine ev_some (ev_pos rfl (ev_pos rfl (ev_pos rfl (ev_pos e0 ?_))))
                rw [Deb.Cmp_same Deb.dvC_cmp e0, beq_self_eq_true]
                exact Ev.now _
end Go.Proofs.YtffcbcihnoaikaaDoor.Pure
