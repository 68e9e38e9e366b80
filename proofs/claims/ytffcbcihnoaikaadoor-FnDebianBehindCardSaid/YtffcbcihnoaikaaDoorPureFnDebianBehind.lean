/- The statement FnDebianBehind: what stands behind a version: a tilde makes it smaller, a letter greater, -0 behind one without a revision changes nothing.
   No condition beyond those that the statement itself states (its card ties the listed variables to the program's text). -/
import Derived.Test.YtffcbcihnoaikaaDoorZBR
import Derived.Test.YtffcbcihnoaikaaDoorQBx
namespace Go.Proofs.YtffcbcihnoaikaaDoor.Pure
open Go.RowKit Go.Proofs.YtffcbcihnoaikaaDoor.QB Go.Proofs.YtffcbcihnoaikaaDoorW.PrintWords Go.Proofs.YtffcbcihnoaikaaDoorW.PrintLast Go.Proofs.YtffcbcihnoaikaaDoor.Pk Go.Proofs.YtffcbcihnoaikaaDoor.Giv Go.Proofs.YtffcbcihnoaikaaDoor.Ord
set_option linter.unusedVariables false
set_option linter.unusedSimpArgs false
theorem letter_of (x : Int) (h0 : 0 ≤ x) : ∃ c : UInt8, Utf8.encode ((97 + Int.tmod x 26) % 256) = bs [c] ∧ 97 ≤ c.toNat ∧ c.toNat ≤ 122 := by
  obtain ⟨n, rfl⟩ := Int.eq_ofNat_of_zero_le h0
  have e : (97 + Int.tmod (n : Int) 26) % 256 = ((97 + n % 26 : Nat) : Int) := by
    have : Int.tmod (n : Int) 26 = ((n % 26 : Nat) : Int) := by
      rw [Int.tmod_eq_emod_of_nonneg (by omega)]
      omega
    rw [this]
    omega
  rw [e]
  have hlt : 97 + n % 26 < 128 := by omega
  refine ⟨UInt8.ofNat (97 + n % 26), ?_, ?_, ?_⟩
  · generalize 97 + n % 26 = m at *
    unfold Utf8.encode
    have hv : Utf8.valid (m : Int) = true := by
      unfold Utf8.valid
      simp
      omega
    simp only [hv, if_true, Int.toNat_natCast, hlt]
    rfl
  · simp
    omega
  · simp
    omega
theorem plain_app {more x y : List UInt8} (hx : plainB more x = true) (hy : y.all (fun c => alnum c || more.contains c) = true) : plainB more (x ++ y) = true := by
  unfold plainB at hx ⊢
  rw [Bool.and_eq_true] at hx ⊢
  refine ⟨by rw [List.all_append, hx.1, hy]; rfl, ?_⟩
  cases x with
  | nil => simp at hx
  | cons c r => rfl
theorem plain_all {more x : List UInt8} (hx : plainB more x = true) : x.all (fun c => alnum c || more.contains c) = true := by
  unfold plainB at hx
  rw [Bool.and_eq_true] at hx
  exact hx.1
theorem okB_app {x y : List UInt8} (hx : okB x = true) (hy : okB y = true) (h : x.length + y.length ≤ 40000) : okB (x ++ y) = true := by
  unfold okB
  rw [Bool.and_eq_true, List.all_eq_true]
  refine ⟨decide_eq_true (by rw [List.length_append]; exact h), fun c hc => decide_eq_true ?_⟩
  rcases List.mem_append.1 hc with hc | hc
  · exact okB_mem hx c hc
  · exact okB_mem hy c hc
theorem FnDebianBehind : laws_FnDebianBehind.Pure := by
  intro a0 a1 a2 h0 h1 h2
  have r0 : 0 ≤ a2 := by
    simp [Lit.wf] at h2
    first
      | exact h2.1
      | (unfold IntKind.fits at h2; simp at h2; omega)
  rw [bs_of a0, bs_of a1] at *
  rw [bs_size] at h0 h1
  generalize a0.toList = a at *
  generalize a1.toList = b at *
  refine Ev.rounds (g := fun k => laws_FnDebianBehind.f k (bs a) (bs b) a2) ?_
  unfold laws_FnDebianBehind.f
  have yes : ∀ x0 x1, Ev (fun k => laws_FnDebianBehind.j0 k x0 x1 a2 true) true := fun x0 x1 => by
    refine Ev.step (fun k => by rw [laws_FnDebianBehind.j0]) ?_
    exact ev_pos rfl (Ev.now _)
  have skip : ∀ x0 x1, Ev (fun k => laws_FnDebianBehind.j1 k x0 x1 a2 true) true := fun x0 x1 => by
    refine Ev.step (fun k => by rw [laws_FnDebianBehind.j1]) ?_
    exact ev_pos rfl (Ev.now _)
  rw [bs_size, bs_size]
  by_cases g0 : (a.length : Int) > 2147483647
  · exact ev_pos g0 (yes _ _)
  · refine ev_neg g0 ?_
    by_cases g1 : (b.length : Int) > 2147483647
    · rw [decide_eq_true g1]
      exact yes _ _
    · rw [decide_eq_false g1]
      refine Ev.step (fun k => by rw [laws_FnDebianBehind.j0]) ?_
      refine ev_neg (by simp) ((short_ev [bs a, bs b] (by simp)).bind ?_)
      cases hs : shortB [bs a, bs b] with
      | false => exact ev_neg (by simp) (skip _ _)
      | true =>
        have z0 := short_sizes hs (bs a) (by simp)
        have z1 := short_sizes hs (bs b) (by simp)
        rw [bs_size] at z0 z1
        refine ev_pos rfl ((plain_ev [46, 43, 126] a (by decide) (by omega)).bind ?_)
        cases pa : plainB [46, 43, 126] a with
        | false => exact ev_neg (by simp) (skip _ _)
        | true =>
          refine ev_pos rfl ((plain_ev [46, 43, 126] b (by decide) (by omega)).bind ?_)
          cases pb : plainB [46, 43, 126] b with
          | false => exact ev_neg (by simp) (skip _ _)
          | true =>
            refine ev_pos rfl ((known_ev a (by omega)).bind ?_)
            cases ka : knownB a with
            | false => exact ev_neg (by simp) (skip _ _)
            | true =>
              refine ev_pos rfl ((known_ev b (by omega)).bind ?_)
              cases kb : knownB b with
              | false => exact skip _ _
              | true =>
                have oa := knownB_okB ka (by omega)
                have ob := knownB_okB kb (by omega)
                obtain ⟨c, ec, c1, c2⟩ := letter_of a2 r0
                have mid : ∀ d : UInt8, (alnum d || [46, 43, 126].contains d) = true → d.toNat < 128 → d.toNat ≠ 0 → Rpm.dig d = false → Giv.impl_DebianCompare.f (bs (a ++ d :: b)) (bs a) = some (Deb.wC (some d) none, true) := by
                  intro d hd d1 d2 d3
                  have pm : plainB [46, 43, 126] (a ++ d :: b) = true := plain_app pa (by rw [List.all_cons, hd, plain_all pb]; rfl)
                  have od : okB (d :: b) = true := by
                    have : okB ([d] ++ b) = true := okB_app (by unfold okB; rw [Bool.and_eq_true]; exact ⟨by simp, by simp [d1, d2]⟩) ob (by simp; omega)
                    simpa using this
                  have om : okB (a ++ d :: b) = true := okB_app oa od (by rw [List.length_cons]; omega)
                  have da := plain_dv pa (by decide) (by decide)
                  have dm := plain_dv pm (by decide) (by decide)
                  rw [Deb.urv_none (plain_no pa 45 (by decide) (by decide))] at da
                  rw [Deb.urv_none (plain_no pm 45 (by decide) (by decide))] at dm
                  rw [dcF om oa dm da, Deb.dvC_up, Deb.deb_app d d3 b a.length a (Nat.le_refl _)]
                have tail : Giv.impl_DebianCompare.f (bs (a ++ [45, 48])) (bs a) = some (0, true) := by
                  have ot : okB (a ++ [45, 48]) = true := okB_app oa (by decide) (by simp; omega)
                  have da := plain_dv pa (by decide) (by decide)
                  rw [Deb.urv_none (plain_no pa 45 (by decide) (by decide))] at da
                  have n1 := plain_sp pa (by decide)
                  have n2 := plain_no pa 58 (by decide) (by decide)
                  have dt : dvL (a ++ [45, 48]) = some (0, a, [48]) := by
                    unfold dvL
                    rw [Deb.dtr_none (by rw [List.any_append, n1]; decide), Deb.dvp_plain (by rw [List.any_append, n2]; decide), Deb.urv_of (by decide)]
                  rw [dcF ot oa dt da, Deb.dvC_up, Deb.debC_cmp.self]
                have e1 : (bs a ++ (⟨#[126]⟩ : ByteArray)) ++ bs b = bs (a ++ 126 :: b) := by
                  rw [show (⟨#[126]⟩ : ByteArray) = bs [126] from rfl, bs_append, bs_append]
                  simp
                have e2 : (bs a ++ bs [c]) ++ bs b = bs (a ++ c :: b) := by
                  rw [bs_append, bs_append]
                  simp
                have e3 : bs a ++ (⟨#[45, 48]⟩ : ByteArray) = bs (a ++ [45, 48]) := by
                  rw [show (⟨#[45, 48]⟩ : ByteArray) = bs [45, 48] from rfl, bs_append]
                have ac : (alnum c || [46, 43, 126].contains c) = true := by
                  have : alnum c = true := by
                    unfold alnum Rpm.let_
                    rw [Bool.or_eq_true]
                    exact .inl (decide_eq_true (by omega))
                  rw [this, Bool.true_or]
                have dc : Rpm.dig c = false := by
                  unfold Rpm.dig
                  rw [decide_eq_false_iff_not]
                  omega
                have m1 := mid 126 (by decide) (by decide) (by decide) (by decide)
                have m2 := mid c ac (by omega) (by omega) dc
                have v1 : Deb.wC (some 126) none = -1 := by decide
                have v2 : Deb.wC (some c) none = 1 := by
                  have k := Deb.wt_key c
                  have : Deb.wtB c = (c.toNat : Int) := by
                    unfold Deb.wtB Deb.isLet
                    rw [if_neg (by omega), if_pos (decide_eq_true (by omega))]
                  show cI (Deb.wtB c) 0 = 1
                  rw [cI_pos, this]
                  omega
                rw [v1] at m1
                rw [v2] at m2
                have sz : ∀ l : List UInt8, (bs l).size = l.length := bs_size
                have s1 : (bs a ++ (⟨#[126]⟩ : ByteArray)).size = a.length + 1 := by
                  rw [show (⟨#[126]⟩ : ByteArray) = bs [126] from rfl, bs_append, sz]
                  simp
                have s2 : (bs a ++ bs [c]).size = a.length + 1 := by
                  rw [bs_append, sz]
                  simp
                refine Ev.step (fun k => by rw [laws_FnDebianBehind.j1, ec, e1, e2, e3, m1, m2, tail, s1, s2]) ?_
                rw [sz, sz, sz]
                have lc : ([c] : List UInt8).length = 1 := rfl
                rw [lc]
                refine ev_neg (by simp) (ev_pos (by omega) (ev_pos (by omega) (ev_some (ev_pos (by omega) (ev_pos (by omega) (ev_some (ev_pos (by omega) (ev_some ?_))))))))
                refine ev_pos rfl (ev_pos rfl (ev_pos rfl (ev_pos rfl (ev_pos rfl ?_))))
                exact Ev.now _
end Go.Proofs.YtffcbcihnoaikaaDoor.Pure
