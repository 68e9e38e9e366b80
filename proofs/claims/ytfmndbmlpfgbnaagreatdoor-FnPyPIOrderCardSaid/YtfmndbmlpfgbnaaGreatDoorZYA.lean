/- Several texts of this claim in one. Put together by wip/tool/merge.py. -/
import Derived.Test.YtfmndbmlpfgbnaaGreatDoorZD
import Derived.Test.YtfmndbmlpfgbnaaGreatDoorQYx
import Derived.Test.YtfmndbmlpfgbnaaGreatDoorZA
import Derived.Test.YtfmndbmlpfgbnaaGreatDoorZNB
import Derived.Test.YtfmndbmlpfgbnaaGreatDoorNGivAw
/- 'short': of lists of texts. -/
namespace Go.Proofs.YtfmndbmlpfgbnaaGreatDoor.QY
open Go.RowKit Go.Proofs.YtfmndbmlpfgbnaaGreatDoorW.PrintWords Go.Proofs.YtfmndbmlpfgbnaaGreatDoorW.PrintLast Go.Proofs.YtfmndbmlpfgbnaaGreatDoor.Pk Go.Proofs.YtfmndbmlpfgbnaaGreatDoor.Giv
set_option linter.unusedVariables false

/-- Are all texts short, and not many of them? -/
def shortB (l : List ByteArray) : Bool := l.all (fun s => decide (s.size ≤ 1500)) && decide (l.length ≤ 150)
theorem short_loop (l : List ByteArray) (hl : l.length < 4611686018427387904) (d : Nat) : ∀ i : Nat, i + d = l.length → Ev (fun k => laws_short.l0 k l l (l.length : Int) (i : Int)) ((l.drop i).all (fun s => decide (s.size ≤ 1500)) && decide (l.length ≤ 150)) := by
  induction d with
  | zero =>
    intro i hi
    refine Ev.step (fun k => by rw [laws_short.l0]) ?_
    refine ev_neg (by omega) ?_
    rw [List.drop_of_length_le (by omega)]
    have e : decide ((l.length : Int) ≤ 150) = ([].all (fun s : ByteArray => decide (s.size ≤ 1500)) && decide (l.length ≤ 150)) := by
      rw [List.all_nil, Bool.true_and, decide_eq_decide]
      omega
    rw [← e]
    exact Ev.now _
  | succ d ih =>
    intro i hi
    have hlt : i < l.length := by omega
    have r := rdOf_nat ByteArray.empty l i hlt
    have w := wr i (by omega)
    refine Ev.step (fun k => by rw [laws_short.l0, r, w]) ?_
    refine ev_pos (by omega) (ev_pos (by omega) (ev_pos (by omega) ?_))
    rw [List.drop_eq_getElem_cons hlt, List.all_cons]
    by_cases h : ((l[i].size : Int)) > 1500
    · refine ev_pos h ?_
      have e : decide (l[i].size ≤ 1500) = false := by rw [decide_eq_false_iff_not]; omega
      rw [e]
      exact Ev.now _
    · refine ev_neg h ?_
      have e : decide (l[i].size ≤ 1500) = true := by rw [decide_eq_true_eq]; omega
      rw [e, Bool.true_and]
      exact ih (i + 1) (by omega)
theorem short_ev (l : List ByteArray) (hl : l.length < 4611686018427387904) : Ev (fun k => laws_short.f k l) (shortB l) := short_loop l hl l.length 0 (by omega)
theorem short_sizes {l : List ByteArray} (h : shortB l = true) : ∀ s ∈ l, s.size ≤ 1500 := by
  unfold shortB at h
  rw [Bool.and_eq_true, List.all_eq_true] at h
  intro s hs
  simpa using h.1 s hs
theorem short_len {l : List ByteArray} (h : shortB l = true) : l.length ≤ 150 := by
  unfold shortB at h
  rw [Bool.and_eq_true] at h
  simpa using h.2
end Go.Proofs.YtfmndbmlpfgbnaaGreatDoor.QY
/- What the reference answers: digits. -/
namespace Go.Proofs.YtfmndbmlpfgbnaaGreatDoor.QY
open Go.RowKit Go.Proofs.YtfmndbmlpfgbnaaGreatDoorW.PrintWords Go.Proofs.YtfmndbmlpfgbnaaGreatDoorW.PrintLast Go.Proofs.YtfmndbmlpfgbnaaGreatDoor.Pk Go.Proofs.YtfmndbmlpfgbnaaGreatDoor.Giv Go.Proofs.YtfmndbmlpfgbnaaGreatDoor.Ord
set_option linter.unusedVariables false

theorem isDigit_f (c : UInt8) : spec_isDigit.f (c.toNat : Int) = some (Rpm.dig c) := by
  unfold spec_isDigit.f Rpm.dig
  by_cases h : (c.toNat : Int) ≥ 48
  · rw [if_pos h]
    congr 1
    rw [decide_eq_decide]
    omega
  · rw [if_neg h]
    congr 1
    rw [eq_comm, decide_eq_false_iff_not]
    omega
theorem allDigits_loop (s : ByteArray) (hs : s.size < 4611686018427387904) (d : Nat) : ∀ i : Nat, i + d = s.size → Ev (fun k => spec_allDigits.l0 k s (i : Int)) ((s.toList.drop i).all Rpm.dig && decide (s.size > 0)) := by
  induction d with
  | zero =>
    intro i hi
    refine Ev.step (fun k => by rw [spec_allDigits.l0]) ?_
    refine ev_neg (by omega) ?_
    rw [List.drop_of_length_le (by rw [len_toList]; omega), List.all_nil, Bool.true_and]
    have e : decide ((s.size : Int) > 0) = decide (s.size > 0) := by rw [decide_eq_decide]; omega
    rw [← e]
    exact Ev.now _
  | succ d ih =>
    intro i hi
    have hlt : i < s.size := by omega
    have w := wr i (by omega)
    refine Ev.step (fun k => by rw [spec_allDigits.l0, bt_nat s i hlt, w, isDigit_f]) ?_
    refine ev_pos (by omega) (ev_pos (by omega) (ev_some ?_))
    rw [drop_at s i hlt, List.all_cons]
    cases hd : Rpm.dig (s[i]'hlt) with
    | true => exact ev_pos rfl (ih (i + 1) (by omega))
    | false => exact ev_neg (by simp) (Ev.now _)
theorem allDigits_ev (s : ByteArray) (hs : s.size < 4611686018427387904) : Ev (fun k => spec_allDigits.f k s) (Num.digits s.toList) := by
  unfold spec_allDigits.f
  have := allDigits_loop s hs s.size 0 (by omega)
  have e : ((s.toList.drop 0).all Rpm.dig && decide (s.size > 0)) = Num.digits s.toList := by
    unfold Num.digits
    rw [List.drop_zero, Bool.and_comm]
    congr 1
    rw [Bool.eq_iff_iff, ← len_toList]
    simp [List.length_pos_iff]
  rw [← e]
  exact this
end Go.Proofs.YtfmndbmlpfgbnaaGreatDoor.QY
/- What the reference's small functions over lists of texts answer: fits, digits, known segments, numbers in digits. -/
namespace Go.Proofs.YtfmndbmlpfgbnaaGreatDoor.QY
open Go.RowKit Go.Proofs.YtfmndbmlpfgbnaaGreatDoorW.PrintWords Go.Proofs.YtfmndbmlpfgbnaaGreatDoorW.PrintLast Go.Proofs.YtfmndbmlpfgbnaaGreatDoor.Pk Go.Proofs.YtfmndbmlpfgbnaaGreatDoor.Giv Go.Proofs.YtfmndbmlpfgbnaaGreatDoor.Ord
set_option linter.unusedVariables false

theorem tail_eq (s : ByteArray) (h : 0 < s.size) : s.toList = s[0]'h :: (s.extract 1 s.size).toList := by
  rw [ext_all]
  have := drop_at s 0 h
  simpa using this
/-- No sign ahead of digits in any. -/
def idK (l : List ByteArray) : Bool := l.all (fun s => !Seg.signed s.toList)
theorem idKnown_loop (l : List ByteArray) (hl : l.length < 4611686018427387904) (hs : ∀ s ∈ l, s.size < 4611686018427387904) (d : Nat) : ∀ i : Nat, i + d = l.length → Ev (fun k => spec_IdentifiersKnown.l0 k l (i : Int)) (idK (l.drop i)) := by
  induction d with
  | zero =>
    intro i hi
    refine Ev.step (fun k => by rw [spec_IdentifiersKnown.l0]) ?_
    refine ev_neg (by omega) ?_
    rw [List.drop_of_length_le (by omega)]
    exact Ev.now _
  | succ d ih =>
    intro i hi
    have hlt : i < l.length := by omega
    have w := wr i (by omega)
    have r := rdOf_nat ByteArray.empty l i hlt
    have hz := hs _ (List.getElem_mem hlt)
    have nx := ih (i + 1) (by omega)
    rw [List.drop_eq_getElem_cons hlt]
    unfold idK at nx ⊢
    rw [List.all_cons]
    generalize l[i]'hlt = s at *
    refine Ev.step (fun k => by rw [spec_IdentifiersKnown.l0, w, r]) ?_
    refine ev_pos (by omega) (ev_pos (by omega) ?_)
    by_cases h1 : (s.size : Int) > 1
    · have h0 : 0 < s.size := by omega
      have et := tail_eq s h0
      have b0 : bt s 0 = ((s[0]'h0).toNat : Int) := bt_nat s 0 h0
      have ad := allDigits_ev (s.extract 1 s.size) (by rw [ByteArray.size_extract]; omega)
      refine ev_pos h1 (ev_pos (by omega) ?_)
      rw [b0]
      have sg : Seg.signed s.toList = ((decide ((s[0]'h0).toNat = 45) || decide ((s[0]'h0).toNat = 43)) && Num.digits (s.extract 1 s.size).toList) := by
        conv => lhs; rw [et]
        rfl
      rw [sg]
      by_cases c1 : ((s[0]'h0).toNat : Int) = 45
      · refine ev_pos c1 (ev_pos (by omega) (ad.bind ?_))
        rw [decide_eq_true (by omega), Bool.true_or, Bool.true_and]
        cases Num.digits (s.extract 1 s.size).toList with
        | true => exact ev_pos rfl (Ev.now _)
        | false => exact ev_neg (by simp) nx
      · refine ev_neg c1 ?_
        by_cases c2 : ((s[0]'h0).toNat : Int) = 43
        · refine ev_pos c2 (ev_pos (by omega) (ad.bind ?_))
          rw [decide_eq_false (by omega), decide_eq_true (by omega), Bool.false_or, Bool.true_and]
          cases Num.digits (s.extract 1 s.size).toList with
          | true => exact ev_pos rfl (Ev.now _)
          | false => exact ev_neg (by simp) nx
        · refine ev_neg c2 ?_
          rw [decide_eq_false (by omega), decide_eq_false (by omega)]
          exact nx
    · refine ev_neg h1 ?_
      have sg : Seg.signed s.toList = false := by
        have hl : s.toList.length ≤ 1 := by rw [len_toList]; omega
        unfold Seg.signed
        cases hc : s.toList with
        | nil => rfl
        | cons c r =>
          have : r = [] := by rw [hc] at hl; simp at hl; exact hl
          subst this
          simp [Num.digits]
      rw [sg]
      exact nx
theorem idKnown_ev (l : List ByteArray) (hl : l.length < 4611686018427387904) (hs : ∀ s ∈ l, s.size < 4611686018427387904) : Ev (fun k => spec_IdentifiersKnown.f k l) (idK l) := by
  have := idKnown_loop l hl hs l.length 0 (by omega)
  exact this
end Go.Proofs.YtfmndbmlpfgbnaaGreatDoor.QY
/- Lists of texts: each is small enough to be told. -/
namespace Go.Proofs.YtfmndbmlpfgbnaaGreatDoor.QY
open Go.RowKit Go.Proofs.YtfmndbmlpfgbnaaGreatDoorW.PrintWords Go.Proofs.YtfmndbmlpfgbnaaGreatDoorW.PrintLast Go.Proofs.YtfmndbmlpfgbnaaGreatDoor.Pk Go.Proofs.YtfmndbmlpfgbnaaGreatDoor.Giv Go.Proofs.YtfmndbmlpfgbnaaGreatDoor.Ord
set_option linter.unusedVariables false

end Go.Proofs.YtfmndbmlpfgbnaaGreatDoor.QY
/- 'Ascii' of the reference. -/
namespace Go.Proofs.YtfmndbmlpfgbnaaGreatDoor.QY
open Go.RowKit Go.Proofs.YtfmndbmlpfgbnaaGreatDoorW.PrintWords Go.Proofs.YtfmndbmlpfgbnaaGreatDoorW.PrintLast Go.Proofs.YtfmndbmlpfgbnaaGreatDoor.Pk Go.Proofs.YtfmndbmlpfgbnaaGreatDoor.Giv
set_option linter.unusedVariables false

def ascB (s : ByteArray) : Bool := s.toList.all (fun c => decide (c.toNat < 128))
theorem ascii_loop (s : ByteArray) (hs : s.size < 4611686018427387904) (d : Nat) : ∀ i : Nat, i + d = s.size → Ev (fun k => spec_Ascii.l0 k s (i : Int)) ((s.toList.drop i).all (fun c => decide (c.toNat < 128))) := by
  induction d with
  | zero =>
    intro i hi
    refine Ev.step (fun k => by rw [spec_Ascii.l0]) ?_
    refine ev_neg (by omega) ?_
    rw [List.drop_of_length_le (by rw [len_toList]; omega)]
    exact Ev.now _
  | succ d ih =>
    intro i hi
    have hlt : i < s.size := by omega
    have b := bt_nat s i hlt
    have w := wr i (by omega)
    refine Ev.step (fun k => by rw [spec_Ascii.l0, b, w]) ?_
    refine ev_pos (by omega) (ev_pos (by omega) ?_)
    rw [drop_at s i hlt, List.all_cons]
    by_cases h : (((s[i]'hlt).toNat : Int)) > 127
    · refine ev_pos h ?_
      rw [show decide ((s[i]'hlt).toNat < 128) = false by rw [decide_eq_false_iff_not]; omega]
      exact Ev.now _
    · refine ev_neg h ?_
      rw [show decide ((s[i]'hlt).toNat < 128) = true by rw [decide_eq_true_eq]; omega, Bool.true_and]
      exact ih (i + 1) (by omega)
theorem ascii_ev (s : ByteArray) (hs : s.size < 4611686018427387904) : Ev (fun k => spec_Ascii.f k s) (ascB s) := ascii_loop s hs s.size 0 (by omega)
end Go.Proofs.YtfmndbmlpfgbnaaGreatDoor.QY
/- Versions of PyPI: what the law asks of one is told, and what it then says. -/
namespace Go.Proofs.YtfmndbmlpfgbnaaGreatDoor.QY
open Go.RowKit Go.Proofs.YtfmndbmlpfgbnaaGreatDoorW.PrintWords Go.Proofs.YtfmndbmlpfgbnaaGreatDoorW.PrintLast Go.Proofs.YtfmndbmlpfgbnaaGreatDoor.Pk Go.Proofs.YtfmndbmlpfgbnaaGreatDoor.Giv Go.Proofs.YtfmndbmlpfgbnaaGreatDoor.Ord
set_option linter.unusedVariables false
set_option linter.unusedSimpArgs false
theorem tidy_tm (ng : Bool) : ∀ l : List UInt8, Tm (fun k => spec_numTidy.l0 k ng (bs l))
  | [] => by
    refine Tm.step (fun k => by rw [spec_numTidy.l0]) ?_
    refine Tm.ite (fun h => absurd h (by rw [bs_size]; simp)) (fun _ => ?_)
    exact Tm.ite (fun _ => Tm.now _) (fun _ => Tm.now _)
  | c :: r => by
    have hp : ((bs (c :: r)).size : Int) > 0 := by rw [bs_size, List.length_cons]; omega
    refine Tm.step (fun k => by rw [spec_numTidy.l0, bs_tail]) ?_
    refine Tm.ite (fun _ => Tm.ite (fun _ => Tm.ite (fun _ => Tm.ite (fun _ => tidy_tm ng r) (fun h => absurd (by omega) h)) (fun _ => ?_)) (fun h => absurd (by omega) h)) (fun h => absurd hp h)
    exact Tm.ite (fun _ => Tm.now _) (fun _ => Tm.now _)
theorem intOK_tm (ng : Bool) (s : ByteArray) : Tm (fun k => spec_IntOK.f k ng s) := by
  have h := tidy_tm ng s.toList
  rw [← bs_of s] at h
  unfold spec_IntOK.f spec_numTidy.f
  exact Tm.bind h (fun _ => Tm.now _)
theorem rdT_nat (l : List S23) (i : Nat) (h : i < l.length) : rd_T23 l (i : Int) = l[i]'h := by
  unfold rd_T23
  rw [Int.toNat_natCast, List.getD_eq_getElem?_getD, List.getElem?_eq_getElem h]
  rfl
theorem intsOK_tm (l : List S23) (hl : l.length < 4611686018427387904) (d : Nat) : ∀ i : Nat, i + d = l.length → Tm (fun k => spec_IntsOK.l0 k l (i : Int)) := by
  induction d with
  | zero =>
    intro i hi
    refine Tm.step (fun k => by rw [spec_IntsOK.l0]) ?_
    exact Tm.ite (fun h => absurd h (by omega)) (fun _ => Tm.now _)
  | succ d ih =>
    intro i hi
    have w := wr i (by omega)
    refine Tm.step (fun k => by rw [spec_IntsOK.l0, w]) ?_
    exact Tm.ite (fun _ => Tm.ite (fun _ => Tm.bind (intOK_tm _ _) (fun _ => Tm.ite (fun _ => ih (i + 1) (by omega)) (fun _ => Tm.now _))) (fun h => absurd (by omega) h)) (fun h => absurd (by omega) h)
theorem numbers_loop (l : List S23) (hl : l.length < 4611686018427387904) (d : Nat) : ∀ i : Nat, i + d = l.length → ∃ b, Ev (fun k => laws_numbers.l0 k l l (l.length : Int) (i : Int)) b ∧ (b = true → (∀ j, i ≤ j → ∀ h : j < l.length, (l[j]'h).f1.size ≤ 1500) ∧ l.length ≤ 150) := by
  induction d with
  | zero =>
    intro i hi
    refine ⟨decide ((l.length : Int) ≤ 150), ?_, fun h => ⟨fun j h1 h2 => absurd h2 (by omega), by have := of_decide_eq_true h; omega⟩⟩
    refine Ev.step (fun k => by rw [laws_numbers.l0]) ?_
    exact ev_neg (by omega) (Ev.now _)
  | succ d ih =>
    intro i hi
    have hlt : i < l.length := by omega
    have w := wr i (by omega)
    have r := rdT_nat l i hlt
    obtain ⟨q, hq, hk⟩ := ih (i + 1) (by omega)
    obtain ⟨t, ht⟩ := intOK_tm (l[i]'hlt).f0 (l[i]'hlt).f1
    cases t with
    | false =>
      refine ⟨false, ?_, fun h => by cases h⟩
      refine Ev.step (fun k => by rw [laws_numbers.l0, r, w]) ?_
      exact ev_pos (by omega) (ev_pos (by omega) (ev_pos (by omega) (Ev.bind ht (ev_neg (by simp) (Ev.now _)))))
    | true =>
      by_cases hs : ((l[i]'hlt).f1.size : Int) > 1500
      · refine ⟨false, ?_, fun h => by cases h⟩
        refine Ev.step (fun k => by rw [laws_numbers.l0, r, w]) ?_
        exact ev_pos (by omega) (ev_pos (by omega) (ev_pos (by omega) (Ev.bind ht (ev_pos rfl (ev_pos hs (Ev.now _))))))
      · refine ⟨q, ?_, fun h => ⟨fun j h1 h2 => ?_, (hk h).2⟩⟩
        · refine Ev.step (fun k => by rw [laws_numbers.l0, r, w]) ?_
          exact ev_pos (by omega) (ev_pos (by omega) (ev_pos (by omega) (Ev.bind ht (ev_pos rfl (ev_neg hs hq)))))
        · by_cases e : j = i
          · subst e
            omega
          · exact (hk h).1 j (by omega) h2
theorem numbers_ev (l : List S23) (hl : l.length < 4611686018427387904) : ∃ b, Ev (fun k => laws_numbers.f k l) b ∧ (b = true → (∀ x ∈ l, x.f1.size ≤ 1500) ∧ l.length ≤ 150) := by
  obtain ⟨b, hb, hk⟩ := numbers_loop l hl l.length 0 (Nat.zero_add _)
  refine ⟨b, hb, fun h => ⟨fun x hx => ?_, (hk h).2⟩⟩
  obtain ⟨j, hj, rfl⟩ := List.mem_iff_getElem.1 hx
  exact (hk h).1 j (Nat.zero_le _) hj
theorem fits2_ev (l : List S23) : ∃ b, Ev (fun k => laws_zzFits2.f k l) b ∧ (b = true → l.length ≤ 2147483647) := by
  have loop : l.length < 4611686018427387904 → ∀ d i : Nat, i + d = l.length → Tm (fun k => laws_zzFits2.l0 k l (l.length : Int) (i : Int)) := by
    intro hl d
    induction d with
    | zero =>
      intro i hi
      refine Tm.step (fun k => by rw [laws_zzFits2.l0]) ?_
      exact Tm.ite (fun h => absurd h (by omega)) (fun _ => Tm.now _)
    | succ d ih =>
      intro i hi
      have w := wr i (by omega)
      have f3 : ∀ (a : Bool) (b : ByteArray), Tm (fun _ : Nat => laws_zzFits3.f a b) := fun a b => by
        unfold laws_zzFits3.f
        exact Tm.ite (fun _ => Tm.now _) (fun _ => Tm.now _)
      refine Tm.step (fun k => by rw [laws_zzFits2.l0, w]) ?_
      refine Tm.ite (fun _ => Tm.ite (fun _ => Tm.ite (fun _ => Tm.bind (f3 _ _) (fun _ => Tm.ite (fun _ => ih (i + 1) (by omega)) (fun _ => Tm.now _))) (fun h => absurd (by omega) h)) (fun h => absurd (by omega) h)) (fun h => absurd (by omega) h)
  unfold laws_zzFits2.f
  by_cases h : (l.length : Int) > 2147483647
  · exact ⟨false, ev_pos h (Ev.now _), fun e => by cases e⟩
  · obtain ⟨b, e⟩ := loop (by omega) l.length 0 (by omega)
    exact ⟨b, ev_neg h e, fun _ => by omega⟩
theorem fits1_loop (l : List ByteArray) (hl : l.length < 4611686018427387904) (d : Nat) : ∀ i : Nat, i + d = l.length → ∃ b, Ev (fun k => laws_zzFits1.l0 k l (l.length : Int) (i : Int)) b ∧ (b = true → ∀ j, i ≤ j → ∀ h : j < l.length, (l[j]'h).size ≤ 2147483647) := by
  induction d with
  | zero =>
    intro i hi
    refine ⟨true, ?_, fun _ j h1 h2 => absurd h2 (by omega)⟩
    refine Ev.step (fun k => by rw [laws_zzFits1.l0]) ?_
    exact ev_neg (by omega) (Ev.now _)
  | succ d ih =>
    intro i hi
    have hlt : i < l.length := by omega
    have w := wr i (by omega)
    have r := rdOf_nat ByteArray.empty l i hlt
    obtain ⟨q, hq, hk⟩ := ih (i + 1) (by omega)
    by_cases hs : ((l[i]'hlt).size : Int) > 2147483647
    · refine ⟨false, ?_, fun h => by cases h⟩
      refine Ev.step (fun k => by rw [laws_zzFits1.l0, r, w]) ?_
      exact ev_pos (by omega) (ev_pos (by omega) (ev_pos (by omega) (ev_pos hs (Ev.now _))))
    · refine ⟨q, ?_, fun h j h1 h2 => ?_⟩
      · refine Ev.step (fun k => by rw [laws_zzFits1.l0, r, w]) ?_
        exact ev_pos (by omega) (ev_pos (by omega) (ev_pos (by omega) (ev_neg hs hq)))
      · by_cases e : j = i
        · subst e
          omega
        · exact hk h j (by omega) h2
theorem fits1_ev (l : List ByteArray) : ∃ b, Ev (fun k => laws_zzFits1.f k l) b ∧ (b = true → l.length ≤ 2147483647 ∧ ∀ s ∈ l, s.size ≤ 2147483647) := by
  unfold laws_zzFits1.f
  by_cases h : (l.length : Int) > 2147483647
  · exact ⟨false, ev_pos h (Ev.now _), fun e => by cases e⟩
  · obtain ⟨b, e, hk⟩ := fits1_loop l (by omega) l.length 0 (by omega)
    refine ⟨b, ev_neg h e, fun hb => ⟨by omega, fun s hs => ?_⟩⟩
    obtain ⟨j, hj, rfl⟩ := List.mem_iff_getElem.1 hs
    exact hk hb j (Nat.zero_le _) hj
theorem fits3_f (a : Bool) (b : ByteArray) : ∃ q, laws_zzFits3.f a b = some q := by
  unfold laws_zzFits3.f
  by_cases h : (b.size : Int) > 2147483647
  · exact ⟨_, if_pos h⟩
  · exact ⟨_, if_neg h⟩
theorem fits13_f (a : Bool) (b : ByteArray) (c : Bool) (d : ByteArray) : ∃ q, laws_zzFits13.f a b c d = some q ∧ (q = true → b.size ≤ 2147483647) := by
  unfold laws_zzFits13.f
  by_cases h : (b.size : Int) > 2147483647
  · exact ⟨false, if_pos h, fun e => by cases e⟩
  · obtain ⟨q, hq⟩ := fits3_f c d
    rw [if_neg h, hq]
    cases q with
    | true => exact ⟨true, rfl, fun _ => by omega⟩
    | false => exact ⟨false, rfl, fun e => by cases e⟩
/-- A chain of questions. -/
theorem andT {f : Nat → Option Bool} {g : Nat → Option Bool} {A B : Prop} (hf : ∃ b, Ev f b ∧ (b = true → A)) (hg : A → ∃ b, Ev g b ∧ (b = true → B)) : ∃ b, Ev (fun k => (f k).bind fun t => if t = true then g k else some false) b ∧ (b = true → A ∧ B) := by
  obtain ⟨b, hb, ha⟩ := hf
  cases b with
  | false => exact ⟨false, hb.bind (ev_neg (by simp) (Ev.now _)), fun e => by cases e⟩
  | true =>
    obtain ⟨q, hq, h2⟩ := hg (ha rfl)
    exact ⟨q, hb.bind (ev_pos rfl hq), fun e => ⟨ha rfl, h2 e⟩⟩
theorem fits12_ev (e0 : Bool) (e1 : ByteArray) (rel : List S23) (a0 : Bool) (a1 : ByteArray) (a2 : Bool) (a3 : ByteArray) (b0 : Bool) (b1 : ByteArray) (b2 : Bool) (b3 : ByteArray) (d0 : Bool) (d1 : ByteArray) (d2 : Bool) (d3 : ByteArray) (loc leg : List ByteArray) :
    ∃ b, Ev (fun k => laws_zzFits12.f k e0 e1 rel a0 a1 a2 a3 b0 b1 b2 b3 d0 d1 d2 d3 loc leg) b ∧ (b = true → True ∧ rel.length ≤ 2147483647 ∧ a1.size ≤ 2147483647 ∧ b1.size ≤ 2147483647 ∧ d1.size ≤ 2147483647 ∧ (loc.length ≤ 2147483647 ∧ ∀ s ∈ loc, s.size ≤ 2147483647) ∧ (leg.length ≤ 2147483647 ∧ ∀ s ∈ leg, s.size ≤ 2147483647) ∧ True) := by
  unfold laws_zzFits12.f
  have at3 : ∀ a b, ∃ q, Ev (fun _ : Nat => laws_zzFits3.f a b) q ∧ (q = true → True) := fun a b => by
    obtain ⟨q, h⟩ := fits3_f a b
    exact ⟨q, ev_at h, fun _ => trivial⟩
  have at13 : ∀ a b c d, ∃ q, Ev (fun _ : Nat => laws_zzFits13.f a b c d) q ∧ (q = true → b.size ≤ 2147483647) := fun a b c d => by
    obtain ⟨q, h, h2⟩ := fits13_f a b c d
    exact ⟨q, ev_at h, h2⟩
  refine andT (at3 _ _) fun _ => andT (fits2_ev rel) fun _ => andT (at13 _ _ _ _) fun _ => andT (at13 _ _ _ _) fun _ => andT (at13 _ _ _ _) fun _ => andT (fits1_ev loc) fun _ => andT (fits1_ev leg) fun _ => ⟨true, Ev.now _, fun _ => trivial⟩
theorem letterOK_ev (h : Bool) (l : ByteArray) (n : Bool) (m : ByteArray) (hl : l.size < 4611686018427387904) : ∃ b, Ev (fun k => spec_pypiLetterOK.f k h l n m) b ∧ (b = true → h = true → 0 < l.size) := by
  unfold spec_pypiLetterOK.f
  obtain ⟨t, ht⟩ := intOK_tm n m
  cases t with
  | false => exact ⟨false, ht.bind (ev_neg (by simp) (Ev.now _)), fun e => by cases e⟩
  | true =>
    cases n with
    | true => exact ⟨false, ht.bind (ev_pos rfl (ev_pos rfl (Ev.now _))), fun e => by cases e⟩
    | false =>
      have ha := ascii_ev l hl
      cases hb : ascB l with
      | false =>
        rw [hb] at ha
        exact ⟨false, ht.bind (ev_pos rfl (ev_neg (by simp) (ha.bind (ev_neg (by simp) (Ev.now _))))), fun e => by cases e⟩
      | true =>
        rw [hb] at ha
        cases h with
        | true =>
          refine ⟨_, ht.bind (ev_pos rfl (ev_neg (by simp) (ha.bind (ev_pos rfl (ev_pos rfl (Ev.now _)))))), fun e _ => ?_⟩
          have hn : l.toList ≠ [] := by simpa using e
          have := bs_size l.toList
          rw [← bs_of l] at this
          have := List.length_pos_iff.2 hn
          omega
        | false => exact ⟨true, ht.bind (ev_pos rfl (ev_neg (by simp) (ha.bind (ev_pos rfl (ev_neg (by simp) (Ev.now _)))))), fun _ e => by cases e⟩
theorem known_ev (e0 : Bool) (e1 : ByteArray) (rel : List S23) (a0 : Bool) (a1 : ByteArray) (a2 : Bool) (a3 : ByteArray) (b0 : Bool) (b1 : ByteArray) (b2 : Bool) (b3 : ByteArray) (d0 : Bool) (d1 : ByteArray) (d2 : Bool) (d3 : ByteArray) (loc leg : List ByteArray) (hr : rel.length < 4611686018427387904) (ha : a1.size < 4611686018427387904) (hb : b1.size < 4611686018427387904) (hd : d1.size < 4611686018427387904) (hl : loc.length < 4611686018427387904) (hs : ∀ s ∈ loc, s.size < 4611686018427387904) (hg : leg.length < 4611686018427387904) (hgs : ∀ s ∈ leg, s.size < 4611686018427387904) :
    ∃ q, Ev (fun k => spec_PyPIKnown.f k e0 e1 rel a0 a1 a2 a3 b0 b1 b2 b3 d0 d1 d2 d3 loc leg) q ∧ (q = true → a0 = true → 0 < a1.size) := by
  have m3 : ∃ q, Ev (fun k => (spec_pypiLetterOK.f k a0 a1 a2 a3).bind fun t123 => (if t123 = true then ((spec_pypiLetterOK.f k b0 b1 b2 b3).bind fun t124 => (if t124 = true then ((spec_pypiLetterOK.f k d0 d1 d2 d3).bind fun t125 => (if t125 = true then ((spec_IdentifiersKnown.f k loc).bind fun t126 => (some t126)) else (some false))) else (some false))) else (some false))) q ∧ (q = true → (a0 = true → 0 < a1.size) ∧ (b0 = true → 0 < b1.size) ∧ (d0 = true → 0 < d1.size) ∧ True) :=
    andT (letterOK_ev a0 a1 a2 a3 ha) fun _ => andT (letterOK_ev b0 b1 b2 b3 hb) fun _ => andT (letterOK_ev d0 d1 d2 d3 hd) fun _ => ⟨idK loc, (idKnown_ev loc hl hs).bind (Ev.now _), fun _ => trivial⟩
  have m2 : ∀ d i : Nat, i + d = leg.length → ∃ q, Ev (fun k => spec_PyPIKnown.l2 k (i : Int) e0 e1 rel a0 a1 a2 a3 b0 b1 b2 b3 d0 d1 d2 d3 loc leg) q ∧ (q = true → a0 = true → 0 < a1.size) := by
    intro d
    induction d with
    | zero =>
      intro i hi
      obtain ⟨q, hq, hk⟩ := m3
      refine ⟨q, ?_, fun h => (hk h).1⟩
      refine Ev.step (fun k => by rw [spec_PyPIKnown.l2]) ?_
      exact ev_neg (by omega) hq
    | succ d ih =>
      intro i hi
      have hlt : i < leg.length := by omega
      have r := rdOf_nat ByteArray.empty leg i hlt
      have w := wr i (by omega)
      obtain ⟨q, hq, hk⟩ := ih (i + 1) (by omega)
      have ht := ascii_ev (leg[i]'hlt) (hgs _ (List.getElem_mem hlt))
      cases t : ascB (leg[i]'hlt) with
      | true =>
        rw [t] at ht
        refine ⟨q, ?_, hk⟩
        refine Ev.step (fun k => by rw [spec_PyPIKnown.l2, r, w]) ?_
        exact ev_pos (by omega) (ev_pos (by omega) (Ev.bind ht (ev_pos rfl hq)))
      | false =>
        rw [t] at ht
        refine ⟨false, ?_, fun h => by cases h⟩
        refine Ev.step (fun k => by rw [spec_PyPIKnown.l2, r, w]) ?_
        exact ev_pos (by omega) (ev_pos (by omega) (Ev.bind ht (ev_neg (by simp) (Ev.now _))))
  have m1 : ∀ d i : Nat, i + d = loc.length → ∃ q, Ev (fun k => spec_PyPIKnown.l1 k (i : Int) e0 e1 rel a0 a1 a2 a3 b0 b1 b2 b3 d0 d1 d2 d3 loc leg) q ∧ (q = true → a0 = true → 0 < a1.size) := by
    intro d
    induction d with
    | zero =>
      intro i hi
      obtain ⟨q, hq, hk⟩ := m2 leg.length 0 (Nat.zero_add _)
      refine ⟨q, ?_, hk⟩
      refine Ev.step (fun k => by rw [spec_PyPIKnown.l1]) ?_
      exact ev_neg (by omega) hq
    | succ d ih =>
      intro i hi
      have hlt : i < loc.length := by omega
      have r := rdOf_nat ByteArray.empty loc i hlt
      have w := wr i (by omega)
      obtain ⟨q, hq, hk⟩ := ih (i + 1) (by omega)
      have ht := ascii_ev (loc[i]'hlt) (hs _ (List.getElem_mem hlt))
      cases t : ascB (loc[i]'hlt) with
      | true =>
        rw [t] at ht
        refine ⟨q, ?_, hk⟩
        refine Ev.step (fun k => by rw [spec_PyPIKnown.l1, r, w]) ?_
        exact ev_pos (by omega) (ev_pos (by omega) (Ev.bind ht (ev_pos rfl hq)))
      | false =>
        rw [t] at ht
        refine ⟨false, ?_, fun h => by cases h⟩
        refine Ev.step (fun k => by rw [spec_PyPIKnown.l1, r, w]) ?_
        exact ev_pos (by omega) (ev_pos (by omega) (Ev.bind ht (ev_neg (by simp) (Ev.now _))))
  have m0 : ∀ d i : Nat, i + d = rel.length → ∃ q, Ev (fun k => spec_PyPIKnown.l0 k (i : Int) e0 e1 rel a0 a1 a2 a3 b0 b1 b2 b3 d0 d1 d2 d3 loc leg) q ∧ (q = true → a0 = true → 0 < a1.size) := by
    intro d
    induction d with
    | zero =>
      intro i hi
      obtain ⟨q, hq, hk⟩ := m1 loc.length 0 (Nat.zero_add _)
      refine ⟨q, ?_, hk⟩
      refine Ev.step (fun k => by rw [spec_PyPIKnown.l0]) ?_
      exact ev_neg (by omega) hq
    | succ d ih =>
      intro i hi
      have hlt : i < rel.length := by omega
      have r := rdT_nat rel i hlt
      have w := wr i (by omega)
      obtain ⟨q, hq, hk⟩ := ih (i + 1) (by omega)
      by_cases hn : (rel[i]'hlt).f0 = true
      · refine ⟨false, ?_, fun h => by cases h⟩
        refine Ev.step (fun k => by rw [spec_PyPIKnown.l0, r, w]) ?_
        exact ev_pos (by omega) (ev_pos (by omega) (ev_pos hn (Ev.now _)))
      · refine ⟨q, ?_, hk⟩
        refine Ev.step (fun k => by rw [spec_PyPIKnown.l0, r, w]) ?_
        exact ev_pos (by omega) (ev_pos (by omega) (ev_neg hn hq))
  have ej : ∀ x : Bool, ∃ q, Ev (fun k => spec_PyPIKnown.j0 k x e0 e1 rel a0 a1 a2 a3 b0 b1 b2 b3 d0 d1 d2 d3 loc leg) q ∧ (q = true → a0 = true → 0 < a1.size) := by
    intro x
    cases x with
    | true =>
      refine ⟨false, ?_, fun h => by cases h⟩
      refine Ev.step (fun k => by rw [spec_PyPIKnown.j0]) ?_
      exact ev_pos rfl (Ev.now _)
    | false =>
      obtain ⟨q, hq, hk⟩ := m0 rel.length 0 (Nat.zero_add _)
      refine ⟨q, ?_, hk⟩
      refine Ev.step (fun k => by rw [spec_PyPIKnown.j0]) ?_
      exact ev_neg (by simp) hq
  unfold spec_PyPIKnown.f
  obtain ⟨t, ht⟩ := intOK_tm e0 e1
  cases t with
  | false =>
    obtain ⟨q, hq, hk⟩ := ej true
    exact ⟨q, ht.bind (ev_neg (by simp) hq), hk⟩
  | true =>
    obtain ⟨u, hu⟩ : Tm (fun k => spec_IntsOK.f k rel) := intsOK_tm rel hr rel.length 0 (Nat.zero_add _)
    cases u with
    | false =>
      obtain ⟨q, hq, hk⟩ := ej true
      exact ⟨q, ht.bind (ev_pos rfl (hu.bind (ev_neg (by simp) hq))), hk⟩
    | true =>
      cases e0 with
      | true =>
        obtain ⟨q, hq, hk⟩ := ej true
        exact ⟨q, ht.bind (ev_pos rfl (hu.bind (ev_pos rfl (ev_pos rfl hq)))), hk⟩
      | false =>
        obtain ⟨q, hq, hk⟩ := ej ((loc.length : Int) == 0)
        exact ⟨q, ht.bind (ev_pos rfl (hu.bind (ev_pos rfl (ev_neg (by simp) hq)))), hk⟩
end Go.Proofs.YtfmndbmlpfgbnaaGreatDoor.QY
/- 'chained': three answers are those of an order. -/
namespace Go.Proofs.YtfmndbmlpfgbnaaGreatDoor.QY
open Go.RowKit Go.Proofs.YtfmndbmlpfgbnaaGreatDoorW.PrintWords Go.Proofs.YtfmndbmlpfgbnaaGreatDoorW.PrintLast Go.Proofs.YtfmndbmlpfgbnaaGreatDoor.Pk Go.Proofs.YtfmndbmlpfgbnaaGreatDoor.Giv Go.Proofs.YtfmndbmlpfgbnaaGreatDoor.Ord
set_option linter.unusedVariables false
theorem bne_ff {a b : Int} (h : a = 0 ↔ b = 0) : ((a == 0) != (b == 0)) = false := by
  by_cases z : a = 0
  · rw [z, h.1 z]
    rfl
  · have z' : b ≠ 0 := fun e => z (h.2 e)
    rw [beq_false_of_ne z, beq_false_of_ne z']
    rfl
theorem bne_f {a : Int} (h : a ≠ 0) : ((a == 0) != false) = false := by
  rw [beq_false_of_ne h]
  rfl
theorem chained_j {ab bc ac : Int} (h : Chain ab bc ac) : Ev (fun k => laws_chained.j0 k ab bc ac false) true := by
  refine Ev.step (fun k => by rw [laws_chained.j0]) ?_
  refine ev_neg (by simp) ?_
  by_cases h1 : ab ≥ 0
  · refine ev_pos h1 ?_
    by_cases h2 : bc ≥ 0
    · have c := h.2 h1 h2
      refine ev_pos h2 (ev_neg (by omega) ?_)
      by_cases z : ab = 0
      · refine ev_pos z (ev_neg ?_ (Ev.now _))
        rw [bne_ff (by rw [c.2]; exact ⟨fun h => h.2, fun h => ⟨z, h⟩⟩)]
        simp
      · refine ev_neg z (ev_neg ?_ (Ev.now _))
        rw [bne_f (fun e => z (c.2.1 e).1)]
        simp
    · exact ev_neg h2 (Ev.now _)
  · exact ev_neg h1 (Ev.now _)
theorem chained_ev {ab bc ac : Int} (h : Chain ab bc ac) : Ev (fun k => laws_chained.f k ab bc ac) true := by
  unfold laws_chained.f
  by_cases h1 : ab ≤ 0
  · refine ev_pos h1 ?_
    by_cases h2 : bc ≤ 0
    · have c := h.1 h1 h2
      refine ev_pos h2 (ev_neg (by omega) ?_)
      by_cases z : ab = 0
      · refine ev_pos z ?_
        rw [bne_ff (by rw [c.2]; exact ⟨fun h => h.2, fun h => ⟨z, h⟩⟩)]
        exact chained_j h
      · refine ev_neg z ?_
        rw [bne_f (fun e => z (c.2.1 e).1)]
        exact chained_j h
    · exact ev_neg h2 (chained_j h)
  · exact ev_neg h1 (chained_j h)
end Go.Proofs.YtfmndbmlpfgbnaaGreatDoor.QY
/- The law FnPyPIOrder: the versions' rows, what is asked of one version, the three together. Laid with key Y, over key N. -/
namespace Go.Proofs.YtfmndbmlpfgbnaaGreatDoor.Pyr
open Go.RowKit Go.Proofs.YtfmndbmlpfgbnaaGreatDoorW.PrintWords Go.Proofs.YtfmndbmlpfgbnaaGreatDoorW.PrintLast Go.Proofs.YtfmndbmlpfgbnaaGreatDoor.Pk Go.Proofs.YtfmndbmlpfgbnaaGreatDoor.Ord Go.Proofs.YtfmndbmlpfgbnaaGreatDoor.Giv
set_option linter.unusedVariables false
set_option linter.unusedSimpArgs false

abbrev SN := Go.Proofs.YtfmndbmlpfgbnaaGreatDoor.QN.S23
abbrev SY := Go.Proofs.YtfmndbmlpfgbnaaGreatDoor.QY.S23
abbrev kN := Go.Proofs.YtfmndbmlpfgbnaaGreatDoor.QN.k23
abbrev kY := Go.Proofs.YtfmndbmlpfgbnaaGreatDoor.QY.k23
def cv (x : SY) : SN := ⟨x.f0, x.f1⟩
theorem cv_row {w : World} {A : Option Addr} {n : Nat} {l : List SY} (h : Kd.C kY w A n l) : Kd.C kN w A n (l.map cv) := by
  obtain ⟨h1, h2, h3⟩ := h
  refine ⟨by rw [List.length_map]; exact h1, h2, fun h0 => ?_⟩
  obtain ⟨ad, e, h4⟩ := h3 h0
  refine ⟨ad, e, fun j p hp => ?_⟩
  rw [List.getElem?_map] at hp
  cases hl : l[j]? with
  | none => rw [hl] at hp; cases hp
  | some x =>
    rw [hl] at hp
    obtain rfl := Option.some.inj hp
    obtain ⟨c, c1, c2, c3⟩ := h4 j x hl
    refine ⟨c, c1, ?_, c3⟩
    rw [Go.Proofs.YtfmndbmlpfgbnaaGreatDoor.QY.k23_open c2]
    exact Go.Proofs.YtfmndbmlpfgbnaaGreatDoor.QN.k23_mk w (cv x)
/-- A version's rows. -/
structure Row (w : World) (p : Py) (rel : List SY) (loc leg : List ByteArray) : Prop where
  rn : p.rn = rel.length
  hr : Kd.C kY w p.RA rel.length rel
  hrc : rel.length ≤ p.rc
  ln : p.ln = loc.length
  hl : Kd.C Kd.string w p.LA loc.length loc
  hlc : loc.length ≤ p.lc
  gn : p.gn = leg.length
  hg : Kd.C Kd.string w p.GA leg.length leg
  hgc : leg.length ≤ p.gc
theorem Row.below {w w' : World} {p : Py} {rel : List SY} {loc leg : List ByteArray} (h : Row w p rel loc leg) (d : Below w.heap.size w w') : Row w' p rel loc leg :=
  ⟨h.rn, Kd.C_below h.hr d, h.hrc, h.ln, Kd.C_below h.hl d, h.hlc, h.gn, Kd.C_below h.hg d, h.hgc⟩
theorem fits_calls {w : World} {p : Py} {rel : List SY} {loc leg : List ByteArray} {b : Bool} (h : Row w p rel loc leg)
    (e : Ev (fun k => Go.Proofs.YtfmndbmlpfgbnaaGreatDoor.QY.laws_zzFits12.f k p.e0 p.e1 rel p.a0 p.a1 p.a2 p.a3 p.b0 p.b1 p.b2 p.b3 p.d0 p.d1 p.d2 p.d3 loc leg) b) (w' : World) (d : Below w.heap.size w w') :
    Calls Tryz.prog 4 #[.agg (pyA p)] w' fun e w2 => e = .returned (.bool b) ∧ Below w'.heap.size w' w2 := by
  have h := h.below d
  obtain ⟨k, e⟩ := e
  have := Go.Proofs.YtfmndbmlpfgbnaaGreatDoor.QY.laws_zzFits12.calls k p.e0 p.e1 p.RA p.rc rel p.a0 p.a1 p.a2 p.a3 p.b0 p.b1 p.b2 p.b3 p.d0 p.d1 p.d2 p.d3 p.LA p.lc loc p.GA p.gc leg b w' h.hr h.hrc h.hl h.hlc h.hg h.hgc (e k (Nat.le_refl _))
  rw [← h.rn, ← h.ln, ← h.gn] at this
  exact this
theorem known_calls {w : World} {p : Py} {rel : List SY} {loc leg : List ByteArray} {b : Bool} (h : Row w p rel loc leg)
    (e : Ev (fun k => Go.Proofs.YtfmndbmlpfgbnaaGreatDoor.QY.spec_PyPIKnown.f k p.e0 p.e1 rel p.a0 p.a1 p.a2 p.a3 p.b0 p.b1 p.b2 p.b3 p.d0 p.d1 p.d2 p.d3 loc leg) b) (w' : World) (d : Below w.heap.size w w') :
    Calls Tryz.prog 13 #[.agg (pyA p)] w' fun e w2 => e = .returned (.bool b) ∧ Below w'.heap.size w' w2 := by
  have h := h.below d
  obtain ⟨k, e⟩ := e
  have := Go.Proofs.YtfmndbmlpfgbnaaGreatDoor.QY.spec_PyPIKnown.calls k p.e0 p.e1 p.RA p.rc rel p.a0 p.a1 p.a2 p.a3 p.b0 p.b1 p.b2 p.b3 p.d0 p.d1 p.d2 p.d3 p.LA p.lc loc p.GA p.gc leg b w' h.hr h.hrc h.hl h.hlc h.hg h.hgc (e k (Nat.le_refl _))
  rw [← h.rn, ← h.ln, ← h.gn] at this
  exact this
theorem nums_calls {l : List SY} {b : Bool} (e : Ev (fun k => Go.Proofs.YtfmndbmlpfgbnaaGreatDoor.QY.laws_numbers.f k l) b) {A : Option Addr} {n c : Nat} {w : World} (hn : n = l.length) (h : Kd.C kY w A l.length l) (hc : l.length ≤ c) :
    Calls Tryz.prog 14 #[.slice A n c] w fun e w2 => e = .returned (.bool b) ∧ Below w.heap.size w w2 := by
  obtain ⟨k, e⟩ := e
  subst hn
  refine (Go.Proofs.YtfmndbmlpfgbnaaGreatDoor.QY.laws_numbers.calls k A c l b w h hc (e k (Nat.le_refl _))).mono ?_
  rintro e w2 ⟨h1, h2⟩
  first | exact ⟨h1, h2⟩ | exact ⟨h1, h2.below⟩
theorem short_calls {l : List ByteArray} {b : Bool} (e : Ev (fun k => Go.Proofs.YtfmndbmlpfgbnaaGreatDoor.QY.laws_short.f k l) b) {A : Option Addr} {n c : Nat} {w : World} (hn : n = l.length) (h : Kd.C Kd.string w A l.length l) (hc : l.length ≤ c) :
    Calls Tryz.prog 15 #[.slice A n c] w fun e w2 => e = .returned (.bool b) ∧ Below w.heap.size w w2 := by
  obtain ⟨k, e⟩ := e
  subst hn
  refine (Go.Proofs.YtfmndbmlpfgbnaaGreatDoor.QY.laws_short.calls k A c l b w h hc (e k (Nat.le_refl _))).mono ?_
  rintro e w2 ⟨h1, h2⟩
  first | exact ⟨h1, h2⟩ | exact ⟨h1, h2.below⟩
theorem row4 {w : World} {h : Nat} {T : TypeId} {fz : Nat × Nat} (a0 a1 a2 a3 : Bool) (b0 b1 b2 b3 : ByteArray) (hh : w.heap[h]? = some (Obj.cells #[.bool a0, .string b0, .bool a1, .string b1, .bool a2, .string b2, .bool a3, .string b3] T fz)) : Kd.C kY w (some ⟨h, 0, none⟩) 4 [⟨a0, b0⟩, ⟨a1, b1⟩, ⟨a2, b2⟩, ⟨a3, b3⟩] := by
  refine ⟨rfl, by decide, fun _ => ⟨_, rfl, ?_⟩⟩
  intro j p hj
  match j, hj with
  | 0, hj => obtain rfl := Option.some.inj hj; exact ⟨[.bool a0, .string b0], rfl, Go.Proofs.YtfmndbmlpfgbnaaGreatDoor.QY.k23_mk w ⟨a0, b0⟩, fun i u hu => by
      match i, hu with
      | 0, hu => obtain rfl := Option.some.inj hu; exact (Lib.cell_of_heap hh _).trans rfl
      | 1, hu => obtain rfl := Option.some.inj hu; exact (Lib.cell_of_heap hh _).trans rfl⟩
  | 1, hj => obtain rfl := Option.some.inj hj; exact ⟨[.bool a1, .string b1], rfl, Go.Proofs.YtfmndbmlpfgbnaaGreatDoor.QY.k23_mk w ⟨a1, b1⟩, fun i u hu => by
      match i, hu with
      | 0, hu => obtain rfl := Option.some.inj hu; exact (Lib.cell_of_heap hh _).trans rfl
      | 1, hu => obtain rfl := Option.some.inj hu; exact (Lib.cell_of_heap hh _).trans rfl⟩
  | 2, hj => obtain rfl := Option.some.inj hj; exact ⟨[.bool a2, .string b2], rfl, Go.Proofs.YtfmndbmlpfgbnaaGreatDoor.QY.k23_mk w ⟨a2, b2⟩, fun i u hu => by
      match i, hu with
      | 0, hu => obtain rfl := Option.some.inj hu; exact (Lib.cell_of_heap hh _).trans rfl
      | 1, hu => obtain rfl := Option.some.inj hu; exact (Lib.cell_of_heap hh _).trans rfl⟩
  | 3, hj => obtain rfl := Option.some.inj hj; exact ⟨[.bool a3, .string b3], rfl, Go.Proofs.YtfmndbmlpfgbnaaGreatDoor.QY.k23_mk w ⟨a3, b3⟩, fun i u hu => by
      match i, hu with
      | 0, hu => obtain rfl := Option.some.inj hu; exact (Lib.cell_of_heap hh _).trans rfl
      | 1, hu => obtain rfl := Option.some.inj hu; exact (Lib.cell_of_heap hh _).trans rfl⟩
theorem row3 {w : World} {h : Nat} {T : TypeId} {fz : Nat × Nat} (b0 b1 b2 : ByteArray) (hh : w.heap[h]? = some (Obj.cells #[.string b0, .string b1, .string b2] T fz)) : Kd.C Kd.string w (some ⟨h, 0, none⟩) 3 [b0, b1, b2] := by
  refine ⟨rfl, by decide, fun _ => ⟨_, rfl, ?_⟩⟩
  intro j p hj
  match j, hj with
  | 0, hj => obtain rfl := Option.some.inj hj; exact ⟨[.string b0], rfl, rfl, fun i u hu => by
      match i, hu with
      | 0, hu => obtain rfl := Option.some.inj hu; exact (Lib.cell_of_heap hh _).trans rfl⟩
  | 1, hj => obtain rfl := Option.some.inj hj; exact ⟨[.string b1], rfl, rfl, fun i u hu => by
      match i, hu with
      | 0, hu => obtain rfl := Option.some.inj hu; exact (Lib.cell_of_heap hh _).trans rfl⟩
  | 2, hj => obtain rfl := Option.some.inj hj; exact ⟨[.string b2], rfl, rfl, fun i u hu => by
      match i, hu with
      | 0, hu => obtain rfl := Option.some.inj hu; exact (Lib.cell_of_heap hh _).trans rfl⟩
/-- A version that fits. -/
def Fit (p : Py) (rel : List SY) (loc leg : List ByteArray) : Prop := True ∧ rel.length ≤ 2147483647 ∧ p.a1.size ≤ 2147483647 ∧ p.b1.size ≤ 2147483647 ∧ p.d1.size ≤ 2147483647 ∧ (loc.length ≤ 2147483647 ∧ ∀ s ∈ loc, s.size ≤ 2147483647) ∧ (leg.length ≤ 2147483647 ∧ ∀ s ∈ leg, s.size ≤ 2147483647) ∧ True
/-- A version that the law asks of. -/
structure Good (p : Py) (rel : List SY) (loc leg : List ByteArray) : Prop where
  pre : p.a0 = true → 0 < p.a1.size
  rel : (∀ x ∈ rel, x.f1.size ≤ 1500) ∧ rel.length ≤ 150
  small : p.Small
  loc : Go.Proofs.YtfmndbmlpfgbnaaGreatDoor.QY.shortB loc = true
  leg : Go.Proofs.YtfmndbmlpfgbnaaGreatDoor.QY.shortB leg = true
theorem one {w : World} {p : Py} {rel : List SY} {loc leg : List ByteArray} (h : Row w p rel loc leg) (hf : Fit p rel loc leg) : ∃ t0 t1 t2 t3 t4 t5 : Bool, RowC p w t0 t1 t2 t3 t4 t5 ∧ (t0 = true → t1 = true → t2 = true → t3 = true → t4 = true → t5 = true → Good p rel loc leg) := by
  obtain ⟨_, f1, f2, f3, f4, ⟨f5, f6⟩, ⟨f7, f8⟩, _⟩ := hf
  have six : ∀ {l : List ByteArray}, (∀ s ∈ l, s.size ≤ 2147483647) → ∀ s ∈ l, s.size < 4611686018427387904 := fun hh s hs => by have := hh s hs; omega
  obtain ⟨t0, h0, g0⟩ := Go.Proofs.YtfmndbmlpfgbnaaGreatDoor.QY.known_ev p.e0 p.e1 rel p.a0 p.a1 p.a2 p.a3 p.b0 p.b1 p.b2 p.b3 p.d0 p.d1 p.d2 p.d3 loc leg (by omega) (by omega) (by omega) (by omega) (by omega) (six f6) (by omega) (six f8)
  obtain ⟨t1, h1, g1⟩ := Go.Proofs.YtfmndbmlpfgbnaaGreatDoor.QY.numbers_ev rel (by omega)
  obtain ⟨t2, h2, g2⟩ := Go.Proofs.YtfmndbmlpfgbnaaGreatDoor.QY.numbers_ev ([⟨p.e0, p.e1⟩, ⟨p.a2, p.a3⟩, ⟨p.b2, p.b3⟩, ⟨p.d2, p.d3⟩] : List SY) (by simp)
  have h3 := Go.Proofs.YtfmndbmlpfgbnaaGreatDoor.QY.short_ev loc (by omega)
  have h4 := Go.Proofs.YtfmndbmlpfgbnaaGreatDoor.QY.short_ev leg (by omega)
  have h5 := Go.Proofs.YtfmndbmlpfgbnaaGreatDoor.QY.short_ev [p.a1, p.b1, p.d1] (by simp)
  refine ⟨t0, t1, t2, Go.Proofs.YtfmndbmlpfgbnaaGreatDoor.QY.shortB loc, Go.Proofs.YtfmndbmlpfgbnaaGreatDoor.QY.shortB leg, Go.Proofs.YtfmndbmlpfgbnaaGreatDoor.QY.shortB [p.a1, p.b1, p.d1], ⟨known_calls h h0, fun w' d => ?_, fun w' d => ?_, fun w' d => ?_, fun w' d => ?_, fun w' d => ?_⟩, fun e0 e1 e2 e3 e4 e5 => ?_⟩
  · exact nums_calls h1 h.rn (h.below d).hr h.hrc
  · exact nums_calls h2 rfl (row4 _ _ _ _ _ _ _ _ (blk_new w' _)) (Nat.le_refl _)
  · exact short_calls h3 h.ln (h.below d).hl h.hlc
  · exact short_calls h4 h.gn (h.below d).hg h.hgc
  · exact short_calls h5 rfl (row3 _ _ _ (blk_new w' _)) (Nat.le_refl _)
  · obtain ⟨n1, _⟩ := g2 e2
    have m0 := n1 ⟨p.e0, p.e1⟩ (by simp)
    have m1 := n1 ⟨p.a2, p.a3⟩ (by simp)
    have m2 := n1 ⟨p.b2, p.b3⟩ (by simp)
    have m3 := n1 ⟨p.d2, p.d3⟩ (by simp)
    dsimp only at m0 m1 m2 m3
    exact ⟨g0 e0, g1 e1, ⟨by omega, by omega, by omega, by omega⟩, e3, e4⟩
end Go.Proofs.YtfmndbmlpfgbnaaGreatDoor.Pyr
/- The law FnPyPIOrder of three versions with all their parts: whole. Laid with key Y, over key N. -/
namespace Go.Proofs.YtfmndbmlpfgbnaaGreatDoor.Pyr
open Go.RowKit Go.Proofs.YtfmndbmlpfgbnaaGreatDoorW.PrintWords Go.Proofs.YtfmndbmlpfgbnaaGreatDoorW.PrintLast Go.Proofs.YtfmndbmlpfgbnaaGreatDoor.Pk Go.Proofs.YtfmndbmlpfgbnaaGreatDoor.Ord Go.Proofs.YtfmndbmlpfgbnaaGreatDoor.Giv
set_option linter.unusedVariables false
set_option linter.unusedSimpArgs false

def pick3 {α : Type} (a b c : α) : Nat → α
  | 0 => a
  | 1 => b
  | _ => c
theorem RowC.on {p : Py} {w w1 : World} {t0 t1 t2 t3 t4 t5 : Bool} (h : RowC p w t0 t1 t2 t3 t4 t5) (d : Below w.heap.size w w1) : RowC p w1 t0 t1 t2 t3 t4 t5 :=
  ⟨fun w' e => h.k w' (below_then d d.size e), fun w' e => h.r w' (below_then d d.size e), fun w' e => h.n w' (below_then d d.size e), fun w' e => h.l w' (below_then d d.size e), fun w' e => h.g w' (below_then d d.size e), fun w' e => h.t w' (below_then d d.size e)⟩
theorem oneF {w : World} {p : Py} {rel : List SY} {loc leg : List ByteArray} (h : Row w p rel loc leg) (hf : Fit p rel loc leg) : ∃ f : Nat → Bool, RowC p w (f 0) (f 1) (f 2) (f 3) (f 4) (f 5) ∧ ((∀ i, i < 6 → f i = true) → Good p rel loc leg) := by
  obtain ⟨t0, t1, t2, t3, t4, t5, hr, hg⟩ := one h hf
  exact ⟨fun i => match i with | 0 => t0 | 1 => t1 | 2 => t2 | 3 => t3 | 4 => t4 | _ => t5, hr, fun hh => hg (hh 0 (by decide)) (hh 1 (by decide)) (hh 2 (by decide)) (hh 3 (by decide)) (hh 4 (by decide)) (hh 5 (by decide))⟩
theorem bs_rows (x y z : Py) (w : World) : (Instr.buildSlice 40 3 #[(0, .agg (pyA x)), (1, .agg (pyA y)), (2, .agg (pyA z))]).run Tryz.prog w = .ok (.slice (some ⟨w.heap.size, 0, none⟩) 3 3) (w.alloc (Obj.cells ((pyA x).toList ++ ((pyA y).toList ++ (pyA z).toList)).toArray 29)) := by
  kernel_rfl
theorem py_len (p : Py) : (pyA p).toList.length = 17 := rfl
theorem rows3 (x y z : Py) (w : World) (j : Nat) (hj : j < 3) : (w.alloc (Obj.cells ((pyA x).toList ++ ((pyA y).toList ++ (pyA z).toList)).toArray 29)).rangeAt w.heap.size (j * 17) (pyA (pick3 x y z j)).toList := by
  intro i v hv
  have hi : i < 17 := by
    have := (List.getElem?_eq_some_iff.1 hv).1
    rw [py_len] at this
    exact this
  refine (Lib.cell_of_heap (blk_new w _) _).trans ?_
  rw [List.getElem?_toArray]
  match j, hj, hv with
  | 0, _, hv =>
    rw [List.getElem?_append_left (by rw [py_len]; omega)]
    rw [show 0 * 17 + i = i by omega]
    exact hv
  | 1, _, hv =>
    rw [List.getElem?_append_right (by rw [py_len]; omega), List.getElem?_append_left (by rw [py_len, py_len]; omega), py_len, show 1 * 17 + i - 17 = i by omega]
    exact hv
  | 2, _, hv =>
    rw [List.getElem?_append_right (by rw [py_len]; omega), List.getElem?_append_right (by rw [py_len, py_len]; omega), py_len, py_len, show 2 * 17 + i - 17 - 17 = i by omega]
    exact hv
theorem pl_fit {l : List ByteArray} (h : Go.Proofs.YtfmndbmlpfgbnaaGreatDoor.QY.shortB l = true) : fit l = true := by
  unfold Go.Proofs.YtfmndbmlpfgbnaaGreatDoor.QY.shortB at h
  rw [Bool.and_eq_true, List.all_eq_true, decide_eq_true_eq] at h
  unfold fit
  rw [Bool.and_eq_true, List.all_eq_true]
  refine ⟨decide_eq_true (by omega), fun s hs => decide_eq_true ?_⟩
  have := of_decide_eq_true (h.1 s hs)
  omega
theorem flat_len : ∀ l : List ByteArray, (∀ s ∈ l, s.size ≤ 1500) → (l.flatMap (·.toList)).length ≤ 1500 * l.length
  | [], _ => Nat.le_refl _
  | s :: r, h => by
    have h1 := h s (List.mem_cons_self ..)
    have h2 := flat_len r (fun x hx => h x (List.mem_cons_of_mem _ hx))
    have h3 : s.toList.length = s.size := by
      have := bs_size s.toList
      rw [← bs_of s] at this
      exact this.symm
    rw [List.flatMap_cons, List.length_append, List.length_cons, h3]
    omega
theorem pyIn {w : World} {p : Py} {rel : List SY} {loc leg : List ByteArray} (h : Row w p rel loc leg) (g : Good p rel loc leg) : PyIn w p (rel.map cv) (zi (rel.map cv)) loc leg := by
  have hlen : (rel.map cv).length = rel.length := List.length_map ..
  have hs2 := Go.Proofs.YtfmndbmlpfgbnaaGreatDoor.QY.short_sizes g.leg
  have hn2 := Go.Proofs.YtfmndbmlpfgbnaaGreatDoor.QY.short_len g.leg
  refine ⟨g.small, by rw [hlen]; exact h.rn, by rw [hlen]; exact cv_row h.hr, by rw [hlen]; exact h.hrc, ?_, by rw [zi_len, hlen]; have := g.rel.2; omega, ?_, h.ln, h.hl, pl_fit g.loc, h.gn, h.hg, h.hgc, ⟨by omega, ?_⟩, g.pre⟩
  · obtain ⟨k, e⟩ := bigs_ev (rel.map cv) (by rw [hlen]; have := g.rel.2; omega)
    exact ⟨k, e k (Nat.le_refl _)⟩
  · intro x hx
    unfold zi at hx
    rw [List.map_map, List.mem_map] at hx
    obtain ⟨y, hy, rfl⟩ := hx
    have := g.rel.1 y hy
    show y.f1.size ≤ 100000
    omega
  · have := flat_len leg hs2
    omega
theorem wide (p : Py) : (pyA p).size = 17 := rfl
theorem cmp_self (x : PvC) : pvCmp x x = 0 := by
  have := pvCmp_cmp.flip x x
  omega
end Go.Proofs.YtfmndbmlpfgbnaaGreatDoor.Pyr
namespace Go.Proofs.YtfmndbmlpfgbnaaGreatDoor.Pure
open Go.RowKit Go.Proofs.YtfmndbmlpfgbnaaGreatDoorW.PrintWords Go.Proofs.YtfmndbmlpfgbnaaGreatDoorW.PrintLast Go.Proofs.YtfmndbmlpfgbnaaGreatDoor.Pk Go.Proofs.YtfmndbmlpfgbnaaGreatDoor.Ord Go.Proofs.YtfmndbmlpfgbnaaGreatDoor.Giv Go.Proofs.YtfmndbmlpfgbnaaGreatDoor.Pyr
set_option linter.unusedVariables false
theorem FnPyPIOrder (p0 p1 p2 : Py) (w : World) {rel0 rel1 rel2 : List SY} {loc0 loc1 loc2 leg0 leg1 leg2 : List ByteArray} (h0 : Row w p0 rel0 loc0 leg0) (h1 : Row w p1 rel1 loc1 leg1) (h2 : Row w p2 rel2 loc2 leg2) (hL : Laid w) :
    Calls Tryz.prog 3 #[.agg (pyA p0), .agg (pyA p1), .agg (pyA p2)] w fun e w' => e = .returned (.bool true) ∧ Below w.heap.size w w' := by
  obtain ⟨b0, e0, g0⟩ := Go.Proofs.YtfmndbmlpfgbnaaGreatDoor.QY.fits12_ev p0.e0 p0.e1 rel0 p0.a0 p0.a1 p0.a2 p0.a3 p0.b0 p0.b1 p0.b2 p0.b3 p0.d0 p0.d1 p0.d2 p0.d3 loc0 leg0
  obtain ⟨b1, e1, g1⟩ := Go.Proofs.YtfmndbmlpfgbnaaGreatDoor.QY.fits12_ev p1.e0 p1.e1 rel1 p1.a0 p1.a1 p1.a2 p1.a3 p1.b0 p1.b1 p1.b2 p1.b3 p1.d0 p1.d1 p1.d2 p1.d3 loc1 leg1
  obtain ⟨b2, e2, g2⟩ := Go.Proofs.YtfmndbmlpfgbnaaGreatDoor.QY.fits12_ev p2.e0 p2.e1 rel2 p2.a0 p2.a1 p2.a2 p2.a3 p2.b0 p2.b1 p2.b2 p2.b3 p2.d0 p2.d1 p2.d2 p2.d3 loc2 leg2
  have z0 := fits_calls h0 e0
  have z1 := fits_calls h1 e1
  have z2 := fits_calls h2 e2
  cases b0 with
  | false => exact f3A _ _ _ ⟨wide p0⟩ ⟨wide p1⟩ ⟨wide p2⟩ w z0
  | true =>
    cases b1 with
    | false => exact f3B _ _ _ ⟨wide p0⟩ ⟨wide p1⟩ ⟨wide p2⟩ w z0 z1
    | true =>
      cases b2 with
      | false => exact f3C _ _ _ ⟨wide p0⟩ ⟨wide p1⟩ ⟨wide p2⟩ w z0 z1 z2
      | true =>
        obtain ⟨t0, r0, q0⟩ := oneF h0 (g0 rfl)
        obtain ⟨t1, r1, q1⟩ := oneF h1 (g1 rfl)
        obtain ⟨t2, r2, q2⟩ := oneF h2 (g2 rfl)
        have hc : ∀ w' : World, Below w.heap.size w w' → ∀ j, j < 3 → RowC (pick3 p0 p1 p2 j) w' (pick3 t0 t1 t2 j 0) (pick3 t0 t1 t2 j 1) (pick3 t0 t1 t2 j 2) (pick3 t0 t1 t2 j 3) (pick3 t0 t1 t2 j 4) (pick3 t0 t1 t2 j 5) := fun w' d j hj => by
          match j, hj with
          | 0, _ => exact RowC.on r0 d
          | 1, _ => exact RowC.on r1 d
          | 2, _ => exact RowC.on r2 d
        have py : ∀ r : Bool, (∀ j i, j < 3 → i < 6 → pick3 t0 t1 t2 j i = false → r = false) → ((∀ j i, j < 3 → i < 6 → pick3 t0 t1 t2 j i = true) → r = true) → ∀ w' : World, Below w.heap.size w w' → _ := fun r rn rp w' d =>
          pypiG (pick3 p0 p1 p2) (pick3 t0 t1 t2) r w'.heap.size _ (fun j hj => rows3 p0 p1 p2 w' j hj) (hc _ (below_then d d.size (below_alloc (Below.refl _ _) _))) rn rp
        by_cases hall : ∀ j i, j < 3 → i < 6 → pick3 t0 t1 t2 j i = true
        · have k0 := pyIn h0 (q0 fun i hi => hall 0 i (by decide) hi)
          have k1 := pyIn h1 (q1 fun i hi => hall 1 i (by decide) hi)
          have k2 := pyIn h2 (q2 fun i hi => hall 2 i (by decide) hi)
          refine f3E _ _ _ ⟨wide p0⟩ ⟨wide p1⟩ ⟨wide p2⟩ w z0 z1 z2 _ (bs_rows p0 p1 p2) (py true (fun j i hj hi hf => by rw [hall j i hj hi] at hf; cases hf) (fun _ => rfl)) _ _ _ ?_ ?_ (fun w' d => implG (k0.below d) (k1.below d) (hL.below d)) (fun w' d => implG (k1.below d) (k2.below d) (hL.below d)) (fun w' d => implG (k0.below d) (k2.below d) (hL.below d)) ?_
          · intro w' d
            refine (Go.Proofs.YtfmndbmlpfgbnaaGreatDoor.Giv.laws_pypiAwake.calls true w' rfl (hL.below d)).mono ?_
            rintro e w2 ⟨x1, x2⟩
            first | exact ⟨x1, x2⟩ | exact ⟨x1, x2.below⟩
          · intro w' d
            have := implG (k0.below d) (k0.below d) (hL.below d)
            rw [cmp_self] at this
            exact this
          · intro w' d
            obtain ⟨k, e⟩ := Go.Proofs.YtfmndbmlpfgbnaaGreatDoor.QY.chained_ev (pvCmp_cmp.chain (pvOf p0 (zi (rel0.map cv)) loc0 leg0) (pvOf p1 (zi (rel1.map cv)) loc1 leg1) (pvOf p2 (zi (rel2.map cv)) loc2 leg2))
            refine (Go.Proofs.YtfmndbmlpfgbnaaGreatDoor.QY.laws_chained.calls k _ _ _ true w' (e k (Nat.le_refl _))).mono ?_
            rintro e w2 ⟨x1, x2⟩
            first | exact ⟨x1, x2⟩ | exact ⟨x1, x2.below⟩
        · exact f3D _ _ _ ⟨wide p0⟩ ⟨wide p1⟩ ⟨wide p2⟩ w z0 z1 z2 _ (bs_rows p0 p1 p2) (py false (fun _ _ _ _ _ => rfl) (fun h => absurd h hall))
end Go.Proofs.YtfmndbmlpfgbnaaGreatDoor.Pure
