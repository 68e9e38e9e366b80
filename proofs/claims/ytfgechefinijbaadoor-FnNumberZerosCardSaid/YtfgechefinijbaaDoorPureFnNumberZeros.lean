/- The statement FnNumberZeros: zeros ahead change no number, for all texts and all counts of zeros.
   No condition beyond those that the statement itself states (its card ties the listed variables to the program's text). -/
import Derived.Test.YtfgechefinijbaaDoorZPshort
import Derived.Test.YtfgechefinijbaaDoorQZx
import Derived.Test.YtfgechefinijbaaDoorZA
namespace Go.Proofs.YtfgechefinijbaaDoor.Pure
open Go.RowKit Go.Proofs.YtfgechefinijbaaDoor.QZ Go.Proofs.YtfgechefinijbaaDoorW.PrintWords Go.Proofs.YtfgechefinijbaaDoorW.PrintLast Go.Proofs.YtfgechefinijbaaDoor.Pk Go.Proofs.YtfgechefinijbaaDoor.Giv Go.Proofs.YtfgechefinijbaaDoor.Ord
theorem parse_digs {l : List UInt8} (h : l.all Rpm.dig = true) (h0 : l ≠ []) : Num.parse l = some (Num.dec l : Int) := by
  have hd : Num.digits l = true := by
    unfold Num.digits
    rw [h]
    simpa using h0
  have cs : Num.cutSign l = (false, l) := by
    cases l with
    | nil => exact absurd rfl h0
    | cons c r =>
      rw [List.all_cons, Bool.and_eq_true] at h
      have := h.1
      unfold Rpm.dig at this
      have h2 := of_decide_eq_true this
      unfold Num.cutSign
      have n1 : ¬ c.toNat = 45 := by omega
      have n2 : ¬ c.toNat = 43 := by omega
      simp [n1, n2]
  unfold Num.parse
  rw [cs, hd]
  rfl
theorem dec_zeros : ∀ n : Nat, Num.dec (List.replicate n 48) = 0
  | 0 => rfl
  | n + 1 => by
    rw [List.replicate_succ', Num.dec_snoc, dec_zeros n]
    rfl
theorem number_f (s : ByteArray) (hs : s.size ≤ 40000) (h : s.toList.all Rpm.dig = true) (h0 : s.toList ≠ []) : Giv.impl_Number.f s = some (false, bs (Lb.mag (Num.dec s.toList)), true) := by
  unfold Giv.impl_Number.f
  rw [if_pos hs, parse_digs h h0]
  have : decide ((Num.dec s.toList : Int) < 0) = false := decide_eq_false (by omega)
  simp only [this, Int.natAbs_natCast]
theorem nz_l1 (s : ByteArray) (hs : s.size ≤ 1500) (h : s.toList.all Rpm.dig = true) (h0 : s.toList ≠ []) (n : Nat) (hn : n ≤ 255) (d : Nat) : ∀ j : Nat, j + d = n → Ev (fun k => laws_FnNumberZeros.l1 k s (bs (List.replicate j 48 ++ s.toList)) (n : Int) (j : Int)) true := by
  have sz : ∀ j : Nat, (bs (List.replicate j 48 ++ s.toList)).size = j + s.size := fun j => by rw [bs_size, List.length_append, List.length_replicate, len_toList]
  induction d with
  | zero =>
    intro j hj
    have f1 := number_f s (by omega) h h0
    have f2 := number_f (bs (List.replicate j 48 ++ s.toList)) (by rw [sz]; omega) (by
      rw [bs_toList, List.all_append, h, Bool.and_true, List.all_replicate]
      split
      · rfl
      · decide) (by rw [bs_toList]; simp [h0])
    rw [bs_toList, Num.dec_append, dec_zeros, Nat.zero_mul, Nat.zero_add] at f2
    refine Ev.step (fun k => by rw [laws_FnNumberZeros.l1, f1, f2]) ?_
    refine ev_neg (by omega) (ev_some (ev_some (ev_pos rfl (ev_pos rfl (ev_pos (by simp) ?_)))))
    exact Ev.now _
  | succ d ih =>
    intro j hj
    have nx := ih (j + 1) (by omega)
    have e1 : ((j : Int) + 1) % 256 = ((j + 1 : Nat) : Int) := by omega
    have e2 : (⟨#[48]⟩ : ByteArray) ++ bs (List.replicate j 48 ++ s.toList) = bs (List.replicate (j + 1) 48 ++ s.toList) := by
      rw [show (⟨#[48]⟩ : ByteArray) = bs [48] from rfl, bs_append, List.replicate_succ]
      rfl
    refine Ev.step (fun k => by rw [laws_FnNumberZeros.l1, e1, e2]) ?_
    exact ev_pos (by omega) (ev_pos (by rw [sz]; omega) nx)
theorem nz_l0 (s : ByteArray) (hs : s.size ≤ 1500) (h0 : s.toList ≠ []) (n : Nat) (hn : n ≤ 255) (d : Nat) : ∀ i : Nat, i + d = s.size → (s.toList.take i).all Rpm.dig = true → Ev (fun k => laws_FnNumberZeros.l0 k s (n : Int) s (i : Int)) true := by
  induction d with
  | zero =>
    intro i hi ha
    rw [List.take_of_length_le (by rw [len_toList]; omega)] at ha
    have l1 := nz_l1 s hs ha h0 n hn n 0 (by omega)
    rw [List.replicate_zero, List.nil_append, ← bs_of] at l1
    refine Ev.step (fun k => by rw [laws_FnNumberZeros.l0]) ?_
    exact ev_neg (by omega) l1
  | succ d ih =>
    intro i hi ha
    have hlt : i < s.size := by omega
    have b := bt_nat s i hlt
    have w := wr i (by omega)
    refine Ev.step (fun k => by rw [laws_FnNumberZeros.l0, b, w]) ?_
    refine ev_pos (by omega) (ev_pos (by omega) ?_)
    by_cases h1 : ((s[i]'hlt).toNat : Int) < 48
    · exact ev_pos h1 (Ev.now _)
    · refine ev_neg h1 ?_
      by_cases h2 : ((s[i]'hlt).toNat : Int) > 57
      · exact ev_pos h2 (Ev.now _)
      · refine ev_neg h2 (ih (i + 1) (by omega) ?_)
        have hd : Rpm.dig (s[i]'hlt) = true := by
          unfold Rpm.dig
          simp only [decide_eq_true_eq]
          omega
        rw [take_next' s i hlt, List.all_append, ha]
        simp [hd]
theorem FnNumberZeros : ∀ (a0 : ByteArray) (a1 : Int), a0.size ≤ 140737488351232 → (Lit.int .u8 a1).wf = true → ∃ k, laws_FnNumberZeros.f k a0 a1 = some true := by
  intro s z _ hz
  suffices h : Ev (fun k => laws_FnNumberZeros.f k s z) true from h.rounds
  have hw : 0 ≤ z ∧ z ≤ 255 := by
    have hx : (decide (IntKind.u8.min ≤ z) && decide (z ≤ IntKind.u8.max)) = true := hz
    rw [Bool.and_eq_true] at hx
    have m0 : IntKind.u8.min = 0 := by decide
    have m1 : IntKind.u8.max = 255 := by decide
    have h1 := of_decide_eq_true hx.1
    have h2 := of_decide_eq_true hx.2
    rw [m0] at h1
    rw [m1] at h2
    exact ⟨h1, h2⟩
  obtain ⟨n, rfl⟩ := Int.eq_ofNat_of_zero_le hw.1
  have out : Ev (fun k => laws_FnNumberZeros.j0 k s (n : Int) true) true := by
    refine Ev.step (fun k => by rw [laws_FnNumberZeros.j0]) ?_
    exact ev_pos rfl (Ev.now _)
  unfold laws_FnNumberZeros.f
  by_cases ha : (s.size : Int) > 2147483647
  · exact ev_pos ha (Ev.now _)
  refine ev_neg ha ((short_ev [s] (by simp)).bind ?_)
  cases sh : shortB [s] with
  | false => exact ev_neg (by simp) out
  | true =>
  have zs := short_sizes sh s (by simp)
  refine ev_pos rfl ?_
  cases h0 : (s.toList == ([] : List UInt8)) with
  | true => exact out
  | false =>
  have hne : s.toList ≠ [] := by simpa using h0
  refine Ev.step (fun k => by rw [laws_FnNumberZeros.j0]) ?_
  exact ev_neg (by simp) (nz_l0 s zs hne n (by omega) s.size 0 (by omega) (by simp))
end Go.Proofs.YtfgechefinijbaaDoor.Pure
