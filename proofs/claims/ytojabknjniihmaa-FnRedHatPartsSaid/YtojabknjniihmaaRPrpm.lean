/- The reference's comparison of two parts answers as Rpm.parts says. -/
import Derived.Test.YtojabknjniihmaaPmk
import Derived.Test.YtojabknjniihmaaQRx
namespace Go.Proofs.Ytojabknjniihmaa.QR
open Go.RowKit Go.Proofs.YtojabknjniihmaaW.PrintWords Go.Proofs.YtojabknjniihmaaW.PrintLast Go.Proofs.Ytojabknjniihmaa.Pk Go.Proofs.Ytojabknjniihmaa.Giv Go.Proofs.Ytojabknjniihmaa.Ord
set_option linter.unusedVariables false
set_option linter.unusedSimpArgs false

theorem isDigit_r (c : UInt8) : spec_isDigit.f (c.toNat : Int) = some (Rpm.dig c) := by
  unfold spec_isDigit.f Rpm.dig
  by_cases h : (c.toNat : Int) ≥ 48
  · rw [if_pos h]
    congr 1
    rw [decide_eq_decide]
    omega
  · rw [if_neg h]
    congr 1
    symm
    rw [decide_eq_false_iff_not]
    omega
theorem isLetter_r (c : UInt8) : spec_isLetter.f (c.toNat : Int) = some (Rpm.let_ c) := by
  unfold spec_isLetter.f Rpm.let_
  by_cases h : (c.toNat : Int) ≥ 97
  · rw [if_pos h]
    by_cases h' : (c.toNat : Int) ≤ 122
    · rw [if_pos h']
      congr 1
      symm
      rw [decide_eq_true_eq]
      omega
    · rw [if_neg h', if_pos (by omega)]
      congr 1
      rw [decide_eq_decide]
      omega
  · rw [if_neg h]
    by_cases h' : (c.toNat : Int) ≥ 65
    · rw [if_pos h']
      congr 1
      rw [decide_eq_decide]
      omega
    · rw [if_neg h']
      congr 1
      symm
      rw [decide_eq_false_iff_not]
      omega
theorem orderInts_r (a b : Int) : spec_orderInts.f a b = some (cI a b) := by
  unfold spec_orderInts.f cI
  by_cases h : a < b
  · rw [if_pos h, if_pos h]
  · rw [if_neg h, if_neg h]
    by_cases h' : a > b
    · rw [if_pos h', if_pos h']
    · rw [if_neg h', if_neg h']
theorem skip_ev (l : List UInt8) : Ev (fun k => spec_rpmSkip.f k (bs l)) (bs (Rpm.skip l)) := by
  unfold spec_rpmSkip.f
  induction l with
  | nil =>
    refine Ev.step (fun k => by rw [spec_rpmSkip.l0]) ?_
    exact ev_neg (by rw [bs_size]; simp) (Ev.now _)
  | cons c r ih =>
    refine Ev.step (fun k => by rw [spec_rpmSkip.l0, bs_bt0, bs_tail]) ?_
    have hs : (0 : Int) < ((bs (c :: r)).size : Int) := by rw [bs_size, List.length_cons]; omega
    refine ev_pos hs (ev_pos hs ?_)
    rw [isDigit_r]
    refine ev_some ?_
    have stay : Rpm.sep c = false → Ev (fun _ : Nat => some (bs (c :: r))) (bs (Rpm.skip (c :: r))) := by
      intro h
      unfold Rpm.skip
      rw [List.dropWhile_cons_of_neg (by simp [h])]
      exact Ev.now _
    cases hd : Rpm.dig c with
    | true => exact ev_pos rfl (stay (by unfold Rpm.sep; simp [hd]))
    | false =>
      refine ev_neg (by simp) ?_
      rw [isLetter_r]
      refine ev_some ?_
      cases hl : Rpm.let_ c with
      | true => exact ev_pos rfl (stay (by unfold Rpm.sep; simp [hl]))
      | false =>
        refine ev_neg (by simp) ?_
        by_cases h1 : (c.toNat : Int) = 126
        · exact ev_pos h1 (stay (by unfold Rpm.sep; simp [show c.toNat = 126 by omega]))
        · refine ev_neg h1 ?_
          by_cases h2 : (c.toNat : Int) = 94
          · exact ev_pos h2 (stay (by unfold Rpm.sep; simp [show c.toNat = 94 by omega]))
          · refine ev_neg h2 (ev_pos (by omega) ?_)
            have : Rpm.sep c = true := by
              unfold Rpm.sep
              simp [hl, hd, show c.toNat ≠ 126 by omega, show c.toNat ≠ 94 by omega]
            unfold Rpm.skip
            rw [List.dropWhile_cons_of_pos this]
            exact ih
/-- The reference's mark does not tell digits from letters. -/
def mark2 (l : List UInt8) : Int := if Rpm.mark l = 3 then 2 else Rpm.mark l
theorem mark_r (l : List UInt8) : spec_rpmMark.f (bs l) = some (mark2 l) := by
  unfold spec_rpmMark.f mark2
  cases l with
  | nil => rfl
  | cons c r =>
    rw [if_neg (by rw [bs_size, List.length_cons]; omega), if_pos (by rw [bs_size, List.length_cons]; omega), bs_bt0]
    by_cases h1 : c.toNat = 126
    · have m : Rpm.mark (c :: r) = -1 := by simp [Rpm.mark, h1]
      rw [if_pos (by omega), m]
      rfl
    · rw [if_neg (by omega)]
      by_cases h2 : c.toNat = 94
      · have m : Rpm.mark (c :: r) = 1 := by simp [Rpm.mark, h2]
        rw [if_pos (by omega), m]
        rfl
      · rw [if_neg (by omega)]
        by_cases d : Rpm.dig c = true
        · have m : Rpm.mark (c :: r) = 3 := by simp [Rpm.mark, h1, h2, d]
          rw [m]
          rfl
        · have m : Rpm.mark (c :: r) = 2 := by simp [Rpm.mark, h1, h2, d]
          rw [m]
          rfl
theorem run_loop (d : Bool) (r : List UInt8) : ∀ pre : List UInt8, pre.length + r.length < 4611686018427387904 → Ev (fun k => spec_rpmRun.l0 k (bs (pre ++ r)) d (pre.length : Int)) ((pre.length + (r.takeWhile (if d then Rpm.dig else Rpm.let_)).length : Nat) : Int) := by
  induction r with
  | nil =>
    intro pre hs
    refine Ev.step (fun k => by rw [spec_rpmRun.l0]) ?_
    exact ev_neg (by rw [bs_size]; simp) (Ev.now _)
  | cons c r ih =>
    intro pre hs
    have hb := bs_bt (pre ++ c :: r) pre.length (by simp)
    rw [List.getElem_append_right (Nat.le_refl _)] at hb
    simp only [Nat.sub_self, List.getElem_cons_zero] at hb
    simp only [List.length_cons] at hs
    have w := wr pre.length (by omega)
    refine Ev.step (fun k => by rw [spec_rpmRun.l0, hb, w]) ?_
    refine ev_pos (by rw [bs_size, List.length_append, List.length_cons]; omega) ?_
    have z := ih (pre ++ [c]) (by simp; omega)
    rw [show (pre ++ [c]) ++ r = pre ++ c :: r by simp, show (pre ++ [c]).length = pre.length + 1 by simp] at z
    cases d with
    | true =>
      refine ev_pos rfl (ev_pos (by omega) ?_)
      rw [isDigit_r]
      refine ev_some ?_
      cases h : Rpm.dig c with
      | true =>
        refine ev_pos rfl ?_
        rw [if_pos rfl, List.takeWhile_cons_of_pos h, List.length_cons, show pre.length + ((r.takeWhile Rpm.dig).length + 1) = pre.length + 1 + (r.takeWhile Rpm.dig).length by omega]
        rw [if_pos rfl] at z
        exact z
      | false =>
        refine ev_neg (by simp) ?_
        rw [if_pos rfl, List.takeWhile_cons_of_neg (by simp [h])]
        exact Ev.now _
    | false =>
      refine ev_neg (by simp) (ev_pos (by omega) ?_)
      rw [isLetter_r]
      refine ev_some ?_
      cases h : Rpm.let_ c with
      | true =>
        refine ev_pos rfl ?_
        rw [if_neg (by simp), List.takeWhile_cons_of_pos h, List.length_cons, show pre.length + ((r.takeWhile Rpm.let_).length + 1) = pre.length + 1 + (r.takeWhile Rpm.let_).length by omega]
        rw [if_neg (by simp)] at z
        exact z
      | false =>
        refine ev_neg (by simp) ?_
        rw [if_neg (by simp), List.takeWhile_cons_of_neg (by simp [h])]
        exact Ev.now _
theorem run_ev (d : Bool) (l : List UInt8) (h : l.length < 4611686018427387904) : Ev (fun k => spec_rpmRun.f k (bs l) d) ((l.takeWhile (if d then Rpm.dig else Rpm.let_)).length : Int) := by
  have := run_loop d l [] (by simpa using h)
  unfold spec_rpmRun.f
  simpa using this
theorem numbers_end (a b : List UInt8) : Ev (fun k => spec_orderNumbers.j3 k (bs a) (bs b)) (if cI a.length b.length = 0 then cS a b else cI a.length b.length) := by
  refine Ev.step (fun k => by rw [spec_orderNumbers.j3]) ?_
  rw [bs_size, bs_size]
  by_cases h : (a.length : Int) = (b.length : Int)
  · refine ev_pos h ?_
    unfold Giv.spec_order.f
    rw [bs_toList, bs_toList, if_pos (cI_zero.2 h)]
    exact Ev.now _
  · refine ev_neg h ?_
    rw [orderInts_r, if_neg (fun z => h (cI_zero.1 z))]
    exact Ev.now _
theorem numbers_two (b : List UInt8) : ∀ a : List UInt8, Ev (fun k => spec_orderNumbers.l1 k (bs a) (bs b)) (if cI a.length (Rpm.strip0 b).length = 0 then cS a (Rpm.strip0 b) else cI a.length (Rpm.strip0 b).length) := by
  induction b with
  | nil =>
    intro a
    refine Ev.step (fun k => by rw [spec_orderNumbers.l1]) ?_
    exact ev_neg (by rw [bs_size]; simp) (numbers_end a [])
  | cons c r ih =>
    intro a
    refine Ev.step (fun k => by rw [spec_orderNumbers.l1, bs_bt0, bs_tail]) ?_
    have hs : (0 : Int) < ((bs (c :: r)).size : Int) := by rw [bs_size, List.length_cons]; omega
    refine ev_pos hs (ev_pos hs ?_)
    unfold Rpm.strip0
    by_cases h : (c.toNat : Int) = 48
    · refine ev_pos h (ev_pos (by omega) ?_)
      rw [List.dropWhile_cons_of_pos (by simp; omega)]
      exact ih a
    · refine ev_neg h ?_
      rw [List.dropWhile_cons_of_neg (by simp; omega)]
      exact numbers_end a _
theorem numbers_ev (a : List UInt8) : ∀ b : List UInt8, Ev (fun k => spec_orderNumbers.f k (bs a) (bs b)) (Rpm.numC a b) := by
  unfold spec_orderNumbers.f Rpm.numC
  induction a with
  | nil =>
    intro b
    refine Ev.step (fun k => by rw [spec_orderNumbers.l0]) ?_
    refine ev_neg (by rw [bs_size]; simp) ?_
    refine Ev.step (fun k => by rw [spec_orderNumbers.j1]) ?_
    exact numbers_two b []
  | cons c r ih =>
    intro b
    refine Ev.step (fun k => by rw [spec_orderNumbers.l0, bs_bt0, bs_tail]) ?_
    have hs : (0 : Int) < ((bs (c :: r)).size : Int) := by rw [bs_size, List.length_cons]; omega
    refine ev_pos hs (ev_pos hs ?_)
    by_cases h : (c.toNat : Int) = 48
    · refine ev_pos h (ev_pos (by omega) ?_)
      have e : Rpm.strip0 (c :: r) = Rpm.strip0 r := by
        unfold Rpm.strip0
        rw [List.dropWhile_cons_of_pos (by simp; omega)]
      rw [e]
      exact ih b
    · refine ev_neg h ?_
      have e : Rpm.strip0 (c :: r) = c :: r := by
        unfold Rpm.strip0
        rw [List.dropWhile_cons_of_neg (by simp; omega)]
      rw [e]
      refine Ev.step (fun k => by rw [spec_orderNumbers.j1]) ?_
      exact numbers_two b _
theorem runs_same (d : Bool) (a b : List UInt8) (ha : a.length < 4611686018427387904) (hb : b.length < 4611686018427387904) :
    Ev (fun k => spec_rpmRuns.j1 k (bs a) (bs b) d) ((if d then Rpm.numC (a.takeWhile Rpm.dig) (b.takeWhile Rpm.dig) else cS (a.takeWhile Rpm.let_) (b.takeWhile Rpm.let_)), bs (a.dropWhile (if d then Rpm.dig else Rpm.let_)), bs (b.dropWhile (if d then Rpm.dig else Rpm.let_))) := by
  refine Ev.step (fun k => by rw [spec_rpmRuns.j1]) ?_
  refine (run_ev d a ha).bind ?_
  refine (run_ev d b hb).bind ?_
  have la := tw_le (if d then Rpm.dig else Rpm.let_) a
  have lb := tw_le (if d then Rpm.dig else Rpm.let_) b
  rw [Int.toNat_natCast, Int.toNat_natCast, bs_extHead, bs_extHead, bs_extAll, bs_extAll, take_tw, take_tw, drop_tw, drop_tw]
  refine ev_pos (by omega) (ev_pos (by rw [bs_size]; omega) (ev_pos (by omega) (ev_pos (by rw [bs_size]; omega) ?_)))
  unfold Giv.spec_order.f
  refine ev_some ?_
  cases d with
  | true =>
    refine ev_pos rfl ?_
    refine (numbers_ev _ _).bind ?_
    exact Ev.now _
  | false =>
    refine ev_neg (by simp) ?_
    rw [bs_toList, bs_toList]
    exact Ev.now _
theorem dig_of {c : UInt8} {r : List UInt8} (h : Rpm.mark (c :: r) = 2 ∨ Rpm.mark (c :: r) = 3) : Rpm.dig c = decide (Rpm.mark (c :: r) = 3) := by
  by_cases d : Rpm.dig c = true
  · have d' := d
    unfold Rpm.dig at d'
    simp at d'
    have m : Rpm.mark (c :: r) = 3 := by
      simp only [Rpm.mark]
      rw [if_neg (by omega), if_neg (by omega), if_pos d]
    rw [m, d]
    rfl
  · have d' : Rpm.dig c = false := by simpa using d
    have m : Rpm.mark (c :: r) ≠ 3 := fun m => d (Rpm.mark_dig m)
    rw [d']
    symm
    rw [decide_eq_false_iff_not]
    exact m
/-- What stands behind a run is shorter. -/
theorem drop_of {l : List UInt8} {c : UInt8} {r : List UInt8} (h : Rpm.mark (c :: r) = 2 ∨ Rpm.mark (c :: r) = 3) (e : Rpm.skip l = c :: r) : ((c :: r).dropWhile (if Rpm.mark (c :: r) = 3 then Rpm.dig else Rpm.let_)).length ≤ r.length := by
  rcases h with h | h
  · rw [if_neg (by omega)]
    exact Rpm.drop_lt (Rpm.mark_let e h).1
  · rw [if_pos h]
    exact Rpm.drop_lt (Rpm.mark_dig h)
theorem parts_loop (m : Nat) : ∀ a b : List UInt8, a.length < m → a.length < 4611686018427387904 → b.length < 4611686018427387904 → Ev (fun k => spec_RedHatParts.l0 k (bs a) (bs b)) (Rpm.rpm m a b) := by
  induction m with
  | zero => intro a b h; omega
  | succ m ih =>
    intro a b hm ha hb
    refine Ev.step (fun k => by rw [spec_RedHatParts.l0]) ?_
    refine (skip_ev a).bind ?_
    refine (skip_ev b).bind ?_
    rw [mark_r, mark_r]
    refine ev_some (ev_some ?_)
    rw [orderInts_r]
    refine ev_some ?_
    have sa := Rpm.skip_le a
    have sb := Rpm.skip_le b
    have ca := Rpm.mark_cases (Rpm.skip a)
    have cb := Rpm.mark_cases (Rpm.skip b)
    by_cases h2 : mark2 (Rpm.skip a) = mark2 (Rpm.skip b)
    · refine ev_pos (cI_zero.2 h2) ?_
      refine Ev.step (fun k => by rw [spec_RedHatParts.j2]) ?_
      by_cases h0 : mark2 (Rpm.skip a) = 0
      · refine ev_pos (by simp [h0]) ?_
        have ma : Rpm.mark (Rpm.skip a) = 0 := by unfold mark2 at h0; split at h0 <;> omega
        have mb : Rpm.mark (Rpm.skip b) = 0 := by unfold mark2 at h0 h2; split at h2 <;> split at h2 <;> simp_all
        have : Rpm.rpm (m + 1) a b = 0 := by
          simp only [Rpm.rpm]
          rw [if_pos (by omega), if_pos ma]
        rw [this, cI_zero.2 h2]
        exact Ev.now _
      · refine ev_neg (by simp [h0]) ?_
        cases ea : Rpm.skip a with
        | nil =>
          rw [ea] at h0
          exact absurd rfl h0
        | cons c r =>
          cases eb : Rpm.skip b with
          | nil =>
            rw [ea, eb] at h2
            rw [ea] at h0
            exact absurd h2 h0
          | cons c' r' =>
            rw [ea] at sa ca h2 h0
            rw [eb] at sb cb h2
            simp only [List.length_cons] at sa sb
            by_cases h1 : mark2 (c :: r) < 2
            · refine ev_pos h1 (ev_pos (by rw [bs_size, List.length_cons]; omega) (ev_pos (by rw [bs_size, List.length_cons]; omega) ?_))
              rw [bs_tail, bs_tail]
              have z := ih r r' (by omega) (by omega) (by omega)
              have ma : Rpm.mark (c :: r) = Rpm.mark (c' :: r') := by
                unfold mark2 at h1 h2
                rcases ca with h | h | h | h | h <;> rcases cb with h' | h' | h' | h' | h' <;> simp [h, h'] at h1 h2 ⊢
              have : Rpm.rpm (m + 1) a b = Rpm.rpm m r r' := by
                simp only [Rpm.rpm]
                rw [ea, eb, if_pos ma]
                have n0 : Rpm.mark (c :: r) ≠ 0 := by unfold mark2 at h0; split at h0 <;> omega
                have n2 : Rpm.mark (c :: r) < 2 := by unfold mark2 at h1; split at h1 <;> omega
                rw [if_neg n0, if_pos n2]
                rfl
              rw [this]
              exact z
            · refine ev_neg h1 ?_
              have ma : Rpm.mark (c :: r) = 2 ∨ Rpm.mark (c :: r) = 3 := by unfold mark2 at h1; split at h1 <;> omega
              have mb : Rpm.mark (c' :: r') = 2 ∨ Rpm.mark (c' :: r') = 3 := by
                unfold mark2 at h1 h2
                split at h2 <;> split at h2 <;> omega
              have da := dig_of ma
              have db := dig_of mb
              have dr := drop_of ma (l := a) ea
              by_cases same : Rpm.mark (c :: r) = Rpm.mark (c' :: r')
              · have rs := runs_same (Rpm.dig c) (c :: r) (c' :: r') (by rw [List.length_cons]; omega) (by rw [List.length_cons]; omega)
                have dsame : Rpm.dig c' = Rpm.dig c := by rw [da, db, same]
                have rr : Ev (fun k => spec_rpmRuns.f k (bs (c :: r)) (bs (c' :: r'))) ((if Rpm.dig c then Rpm.numC ((c :: r).takeWhile Rpm.dig) ((c' :: r').takeWhile Rpm.dig) else cS ((c :: r).takeWhile Rpm.let_) ((c' :: r').takeWhile Rpm.let_)), bs ((c :: r).dropWhile (if Rpm.dig c then Rpm.dig else Rpm.let_)), bs ((c' :: r').dropWhile (if Rpm.dig c then Rpm.dig else Rpm.let_))) := by
                  unfold spec_rpmRuns.f
                  rw [bs_bt0, bs_bt0, isDigit_r, isDigit_r]
                  refine ev_pos (by rw [bs_size, List.length_cons]; omega) (ev_some ?_)
                  cases hd : Rpm.dig c with
                  | true =>
                    rw [hd] at rs
                    refine ev_pos rfl (ev_pos (by rw [bs_size, List.length_cons]; omega) (ev_some ?_))
                    rw [dsame, hd]
                    refine Ev.step (fun k => by rw [spec_rpmRuns.j0]) ?_
                    exact ev_neg (by simp) (ev_pos rfl rs)
                  | false =>
                    rw [hd] at rs
                    refine ev_neg (by simp) ?_
                    refine Ev.step (fun k => by rw [spec_rpmRuns.j0, bs_bt0, isDigit_r, dsame, hd]) ?_
                    exact ev_neg (by simp) (ev_neg (by simp) (ev_pos (by rw [bs_size, List.length_cons]; omega) (ev_some (ev_neg (by simp) rs))))
                refine rr.bind ?_
                rcases ma with m2 | m3
                · have hd : Rpm.dig c = false := by rw [da, m2]; rfl
                  simp only [hd, Bool.false_eq_true, if_false]
                  have e : Rpm.rpm (m + 1) a b = if cS ((c :: r).takeWhile Rpm.let_) ((c' :: r').takeWhile Rpm.let_) = 0 then Rpm.rpm m ((c :: r).dropWhile Rpm.let_) ((c' :: r').dropWhile Rpm.let_) else cS ((c :: r).takeWhile Rpm.let_) ((c' :: r').takeWhile Rpm.let_) := by
                    conv => lhs; simp only [Rpm.rpm]
                    rw [ea, eb, if_pos same, m2, if_neg (by omega), if_neg (by omega), if_neg (by omega)]
                  rw [e]
                  by_cases z : cS ((c :: r).takeWhile Rpm.let_) ((c' :: r').takeWhile Rpm.let_) = 0
                  · refine ev_pos z ?_
                    rw [if_pos z]
                    rw [m2] at dr
                    have q := dw_le Rpm.let_ (c' :: r')
                    simp only [List.length_cons] at q
                    exact ih _ _ (by have := dr; simp at this; omega) (by have := dr; simp at this; omega) (by omega)
                  · refine ev_neg z ?_
                    rw [if_neg z]
                    exact Ev.now _
                · have hd : Rpm.dig c = true := by rw [da, m3]; rfl
                  simp only [hd, if_true]
                  have e : Rpm.rpm (m + 1) a b = if Rpm.numC ((c :: r).takeWhile Rpm.dig) ((c' :: r').takeWhile Rpm.dig) = 0 then Rpm.rpm m ((c :: r).dropWhile Rpm.dig) ((c' :: r').dropWhile Rpm.dig) else Rpm.numC ((c :: r).takeWhile Rpm.dig) ((c' :: r').takeWhile Rpm.dig) := by
                    conv => lhs; simp only [Rpm.rpm]
                    rw [ea, eb, if_pos same, m3, if_neg (by omega), if_neg (by omega), if_pos rfl]
                  rw [e]
                  by_cases z : Rpm.numC ((c :: r).takeWhile Rpm.dig) ((c' :: r').takeWhile Rpm.dig) = 0
                  · refine ev_pos z ?_
                    rw [if_pos z]
                    rw [m3] at dr
                    have q := dw_le Rpm.dig (c' :: r')
                    simp only [List.length_cons] at q
                    exact ih _ _ (by have := dr; simp at this; omega) (by have := dr; simp at this; omega) (by omega)
                  · refine ev_neg z ?_
                    rw [if_neg z]
                    exact Ev.now _
              · have e : Rpm.rpm (m + 1) a b = cI (Rpm.mark (c :: r)) (Rpm.mark (c' :: r')) := by
                  conv => lhs; simp only [Rpm.rpm]
                  rw [ea, eb, if_neg same]
                rw [e]
                have rr : Ev (fun k => spec_rpmRuns.f k (bs (c :: r)) (bs (c' :: r'))) (cI (Rpm.mark (c :: r)) (Rpm.mark (c' :: r')), bs [], bs []) := by
                  unfold spec_rpmRuns.f
                  rw [bs_bt0, bs_bt0, isDigit_r, isDigit_r]
                  refine ev_pos (by rw [bs_size, List.length_cons]; omega) (ev_some ?_)
                  cases hd : Rpm.dig c with
                  | true =>
                    have m3 : Rpm.mark (c :: r) = 3 := by
                      rw [hd] at da
                      exact of_decide_eq_true da.symm
                    have m2 : Rpm.mark (c' :: r') = 2 := by omega
                    have hd' : Rpm.dig c' = false := by rw [db, m2]; rfl
                    refine ev_pos rfl (ev_pos (by rw [bs_size, List.length_cons]; omega) (ev_some ?_))
                    rw [hd']
                    refine Ev.step (fun k => by rw [spec_rpmRuns.j0]) ?_
                    rw [m3, m2]
                    exact ev_pos rfl (Ev.now _)
                  | false =>
                    have m2 : Rpm.mark (c :: r) = 2 := by
                      rw [hd] at da
                      have := of_decide_eq_false da.symm
                      omega
                    have m3 : Rpm.mark (c' :: r') = 3 := by omega
                    have hd' : Rpm.dig c' = true := by rw [db, m3]; rfl
                    refine ev_neg (by simp) ?_
                    refine Ev.step (fun k => by rw [spec_rpmRuns.j0, bs_bt0, isDigit_r, hd']) ?_
                    rw [m3, m2]
                    exact ev_neg (by simp) (ev_neg (by simp) (ev_pos (by rw [bs_size, List.length_cons]; omega) (ev_some (ev_pos rfl (Ev.now _)))))
                refine rr.bind ?_
                refine ev_neg (fun z => same (cI_zero.1 z)) (Ev.now _)
    · refine ev_neg (fun z => h2 (cI_zero.1 z)) ?_
      refine Ev.step (fun k => by rw [spec_RedHatParts.j2]) ?_
      refine ev_pos rfl ?_
      have n : Rpm.mark (Rpm.skip a) ≠ Rpm.mark (Rpm.skip b) := by
        intro e
        unfold mark2 at h2
        rw [e] at h2
        exact h2 rfl
      have : Rpm.rpm (m + 1) a b = cI (mark2 (Rpm.skip a)) (mark2 (Rpm.skip b)) := by
        simp only [Rpm.rpm]
        rw [if_neg n]
        unfold mark2 at h2 ⊢
        unfold cI
        rcases ca with h | h | h | h | h <;> rcases cb with h' | h' | h' | h' | h' <;> rw [h, h'] <;> rw [h, h'] at h2 <;> first | rfl | exact absurd rfl h2 | (simp at h2)
      rw [this]
      exact Ev.now _
theorem specParts_ev (a b : List UInt8) (ha : a.length < 2305843009213693952) (hb : b.length < 2305843009213693952) : Ev (fun k => spec_RedHatParts.f k (bs a) (bs b)) (Rpm.parts a b) := by
  unfold spec_RedHatParts.f Rpm.parts
  rw [bs_toList, bs_toList]
  by_cases h : a = []
  · refine ev_pos h ?_
    refine Ev.step (fun k => by rw [spec_RedHatParts.j0]) ?_
    refine ev_pos rfl ?_
    rw [if_pos (.inl h), orderInts_r, bs_size, bs_size]
    exact Ev.now _
  · refine ev_neg h ?_
    refine Ev.step (fun k => by rw [spec_RedHatParts.j0]) ?_
    by_cases h' : b = []
    · refine ev_pos (by simp [h']) ?_
      rw [if_pos (.inr h'), orderInts_r, bs_size, bs_size]
      exact Ev.now _
    · refine ev_neg (by simp [h']) ?_
      rw [if_neg (by simp [h, h'])]
      exact parts_loop _ a b (by omega) (by omega) (by omega)
end Go.Proofs.Ytojabknjniihmaa.QR
