/- 'short': of lists of texts.
   'chained': three answers are those of an order.
   What the reference's small functions over lists of texts answer: fits, digits, known segments, numbers in digits.
   What the reference answers over segments: known ones, numbers in digits, lists compared. -/
import Derived.Test.YtfgechefinijbaaDoorZD
import Derived.Test.YtfgechefinijbaaDoorQRx
import Derived.Test.YtfgechefinijbaaDoorZA
namespace Go.Proofs.YtfgechefinijbaaDoor.QR
open Go.RowKit Go.Proofs.YtfgechefinijbaaDoorW.PrintWords Go.Proofs.YtfgechefinijbaaDoorW.PrintLast Go.Proofs.YtfgechefinijbaaDoor.Pk Go.Proofs.YtfgechefinijbaaDoor.Giv
set_option linter.unusedVariables false

/-- Are all texts short, and not many of them? -/
def shortB (l : List ByteArray) : Bool := l.all (fun s => decide (s.size ≤ 1500)) && decide (l.length ≤ 150)
theorem short_loop (l : List ByteArray) (hl : l.length < 4611686018427387904) (d : Nat) : ∀ i : Nat, i + d = l.length → Ev (fun k => laws_short.l0 k l l (l.length : Int) (i : Int)) ((l.drop i).all (fun s => decide (s.size ≤ 1500)) && decide (l.length ≤ 150)) := by
  induction d with
  | zero =>
    intro i hi
    refine Ev.step (fun k => by rw [laws_short.l0]) ?_
    refine ev_neg (by omega) ?_
    rw [List.drop_of_length_le (by omega)]
    have e : decide ((l.length : Int) ≤ 150) = ([].all (fun s : ByteArray => decide (s.size ≤ 1500)) && decide (l.length ≤ 150)) := by
      rw [List.all_nil, Bool.true_and, decide_eq_decide]
      omega
    rw [← e]
    exact Ev.now _
  | succ d ih =>
    intro i hi
    have hlt : i < l.length := by omega
    have r := rdOf_nat ByteArray.empty l i hlt
    have w := wr i (by omega)
    refine Ev.step (fun k => by rw [laws_short.l0, r, w]) ?_
    refine ev_pos (by omega) (ev_pos (by omega) (ev_pos (by omega) ?_))
    rw [List.drop_eq_getElem_cons hlt, List.all_cons]
    by_cases h : ((l[i].size : Int)) > 1500
    · refine ev_pos h ?_
      have e : decide (l[i].size ≤ 1500) = false := by rw [decide_eq_false_iff_not]; omega
      rw [e]
      exact Ev.now _
    · refine ev_neg h ?_
      have e : decide (l[i].size ≤ 1500) = true := by rw [decide_eq_true_eq]; omega
      rw [e, Bool.true_and]
      exact ih (i + 1) (by omega)
theorem short_ev (l : List ByteArray) (hl : l.length < 4611686018427387904) : Ev (fun k => laws_short.f k l) (shortB l) := short_loop l hl l.length 0 (by omega)
theorem short_sizes {l : List ByteArray} (h : shortB l = true) : ∀ s ∈ l, s.size ≤ 1500 := by
  unfold shortB at h
  rw [Bool.and_eq_true, List.all_eq_true] at h
  intro s hs
  simpa using h.1 s hs
theorem short_len {l : List ByteArray} (h : shortB l = true) : l.length ≤ 150 := by
  unfold shortB at h
  rw [Bool.and_eq_true] at h
  simpa using h.2
end Go.Proofs.YtfgechefinijbaaDoor.QR

namespace Go.Proofs.YtfgechefinijbaaDoor.QR
open Go.RowKit Go.Proofs.YtfgechefinijbaaDoorW.PrintWords Go.Proofs.YtfgechefinijbaaDoorW.PrintLast Go.Proofs.YtfgechefinijbaaDoor.Pk Go.Proofs.YtfgechefinijbaaDoor.Giv Go.Proofs.YtfgechefinijbaaDoor.Ord
set_option linter.unusedVariables false
theorem bne_ff {a b : Int} (h : a = 0 ↔ b = 0) : ((a == 0) != (b == 0)) = false := by
  by_cases z : a = 0
  · rw [z, h.1 z]
    rfl
  · have z' : b ≠ 0 := fun e => z (h.2 e)
    rw [beq_false_of_ne z, beq_false_of_ne z']
    rfl
theorem bne_f {a : Int} (h : a ≠ 0) : ((a == 0) != false) = false := by
  rw [beq_false_of_ne h]
  rfl
theorem chained_j {ab bc ac : Int} (h : Chain ab bc ac) : Ev (fun k => laws_chained.j0 k ab bc ac false) true := by
  refine Ev.step (fun k => by rw [laws_chained.j0]) ?_
  refine ev_neg (by simp) ?_
  by_cases h1 : ab ≥ 0
  · refine ev_pos h1 ?_
    by_cases h2 : bc ≥ 0
    · have c := h.2 h1 h2
      refine ev_pos h2 (ev_neg (by omega) ?_)
      by_cases z : ab = 0
      · refine ev_pos z (ev_neg ?_ (Ev.now _))
        rw [bne_ff (by rw [c.2]; exact ⟨fun h => h.2, fun h => ⟨z, h⟩⟩)]
        simp
      · refine ev_neg z (ev_neg ?_ (Ev.now _))
        rw [bne_f (fun e => z (c.2.1 e).1)]
        simp
    · exact ev_neg h2 (Ev.now _)
  · exact ev_neg h1 (Ev.now _)
theorem chained_ev {ab bc ac : Int} (h : Chain ab bc ac) : Ev (fun k => laws_chained.f k ab bc ac) true := by
  unfold laws_chained.f
  by_cases h1 : ab ≤ 0
  · refine ev_pos h1 ?_
    by_cases h2 : bc ≤ 0
    · have c := h.1 h1 h2
      refine ev_pos h2 (ev_neg (by omega) ?_)
      by_cases z : ab = 0
      · refine ev_pos z ?_
        rw [bne_ff (by rw [c.2]; exact ⟨fun h => h.2, fun h => ⟨z, h⟩⟩)]
        exact chained_j h
      · refine ev_neg z ?_
        rw [bne_f (fun e => z (c.2.1 e).1)]
        exact chained_j h
    · exact ev_neg h2 (chained_j h)
  · exact ev_neg h1 (chained_j h)
end Go.Proofs.YtfgechefinijbaaDoor.QR

namespace Go.Proofs.YtfgechefinijbaaDoor.QR
open Go.RowKit Go.Proofs.YtfgechefinijbaaDoorW.PrintWords Go.Proofs.YtfgechefinijbaaDoorW.PrintLast Go.Proofs.YtfgechefinijbaaDoor.Pk Go.Proofs.YtfgechefinijbaaDoor.Giv Go.Proofs.YtfgechefinijbaaDoor.Ord
set_option linter.unusedVariables false

theorem fits_loop (l : List ByteArray) (hl : l.length < 4611686018427387904) (d : Nat) : ∀ i : Nat, i + d = l.length → Tm (fun k => laws_zzFits1.l0 k l (l.length : Int) (i : Int)) := by
  induction d with
  | zero =>
    intro i hi
    refine Tm.step (fun k => by rw [laws_zzFits1.l0]) ?_
    exact Tm.ite (fun h => absurd h (by omega)) (fun _ => Tm.now _)
  | succ d ih =>
    intro i hi
    have w := wr i (by omega)
    refine Tm.step (fun k => by rw [laws_zzFits1.l0, w]) ?_
    refine Tm.ite (fun _ => Tm.ite (fun _ => Tm.ite (fun _ => Tm.ite (fun _ => Tm.now _) (fun _ => ?_)) (fun h => absurd (by omega) h)) (fun h => absurd (by omega) h)) (fun h => absurd (by omega) h)
    exact ih (i + 1) (by omega)
/-- Fits: it tells, and a list that fits is not long. -/
theorem fits_ev (l : List ByteArray) : ∃ b, Ev (fun k => laws_zzFits1.f k l) b ∧ (b = true → l.length ≤ 2147483647) := by
  unfold laws_zzFits1.f
  by_cases h : (l.length : Int) > 2147483647
  · exact ⟨false, ev_pos h (Ev.now _), fun e => by cases e⟩
  · obtain ⟨b, e⟩ := fits_loop l (by omega) l.length 0 (by omega)
    exact ⟨b, ev_neg h e, fun _ => by omega⟩
theorem isDigit_f (c : UInt8) : spec_isDigit.f (c.toNat : Int) = some (Rpm.dig c) := by
  unfold spec_isDigit.f Rpm.dig
  by_cases h : (c.toNat : Int) ≥ 48
  · rw [if_pos h]
    congr 1
    rw [decide_eq_decide]
    omega
  · rw [if_neg h]
    congr 1
    rw [eq_comm, decide_eq_false_iff_not]
    omega
theorem allDigits_loop (s : ByteArray) (hs : s.size < 4611686018427387904) (d : Nat) : ∀ i : Nat, i + d = s.size → Ev (fun k => spec_allDigits.l0 k s (i : Int)) ((s.toList.drop i).all Rpm.dig && decide (s.size > 0)) := by
  induction d with
  | zero =>
    intro i hi
    refine Ev.step (fun k => by rw [spec_allDigits.l0]) ?_
    refine ev_neg (by omega) ?_
    rw [List.drop_of_length_le (by rw [len_toList]; omega), List.all_nil, Bool.true_and]
    have e : decide ((s.size : Int) > 0) = decide (s.size > 0) := by rw [decide_eq_decide]; omega
    rw [← e]
    exact Ev.now _
  | succ d ih =>
    intro i hi
    have hlt : i < s.size := by omega
    have w := wr i (by omega)
    refine Ev.step (fun k => by rw [spec_allDigits.l0, bt_nat s i hlt, w, isDigit_f]) ?_
    refine ev_pos (by omega) (ev_pos (by omega) (ev_some ?_))
    rw [drop_at s i hlt, List.all_cons]
    cases hd : Rpm.dig (s[i]'hlt) with
    | true => exact ev_pos rfl (ih (i + 1) (by omega))
    | false => exact ev_neg (by simp) (Ev.now _)
theorem allDigits_ev (s : ByteArray) (hs : s.size < 4611686018427387904) : Ev (fun k => spec_allDigits.f k s) (Num.digits s.toList) := by
  unfold spec_allDigits.f
  have := allDigits_loop s hs s.size 0 (by omega)
  have e : ((s.toList.drop 0).all Rpm.dig && decide (s.size > 0)) = Num.digits s.toList := by
    unfold Num.digits
    rw [List.drop_zero, Bool.and_comm]
    congr 1
    rw [Bool.eq_iff_iff, ← len_toList]
    simp [List.length_pos_iff]
  rw [← e]
  exact this
theorem tail_eq (s : ByteArray) (h : 0 < s.size) : s.toList = s[0]'h :: (s.extract 1 s.size).toList := by
  rw [ext_all]
  have := drop_at s 0 h
  simpa using this
/-- No sign ahead of digits in any. -/
def idK (l : List ByteArray) : Bool := l.all (fun s => !Seg.signed s.toList)
theorem idKnown_loop (l : List ByteArray) (hl : l.length < 4611686018427387904) (hs : ∀ s ∈ l, s.size < 4611686018427387904) (d : Nat) : ∀ i : Nat, i + d = l.length → Ev (fun k => spec_IdentifiersKnown.l0 k l (i : Int)) (idK (l.drop i)) := by
  induction d with
  | zero =>
    intro i hi
    refine Ev.step (fun k => by rw [spec_IdentifiersKnown.l0]) ?_
    refine ev_neg (by omega) ?_
    rw [List.drop_of_length_le (by omega)]
    exact Ev.now _
  | succ d ih =>
    intro i hi
    have hlt : i < l.length := by omega
    have w := wr i (by omega)
    have r := rdOf_nat ByteArray.empty l i hlt
    have hz := hs _ (List.getElem_mem hlt)
    have nx := ih (i + 1) (by omega)
    rw [List.drop_eq_getElem_cons hlt]
    unfold idK at nx ⊢
    rw [List.all_cons]
    generalize l[i]'hlt = s at *
    refine Ev.step (fun k => by rw [spec_IdentifiersKnown.l0, w, r]) ?_
    refine ev_pos (by omega) (ev_pos (by omega) ?_)
    by_cases h1 : (s.size : Int) > 1
    · have h0 : 0 < s.size := by omega
      have et := tail_eq s h0
      have b0 : bt s 0 = ((s[0]'h0).toNat : Int) := bt_nat s 0 h0
      have ad := allDigits_ev (s.extract 1 s.size) (by rw [ByteArray.size_extract]; omega)
      refine ev_pos h1 (ev_pos (by omega) ?_)
      rw [b0]
      have sg : Seg.signed s.toList = ((decide ((s[0]'h0).toNat = 45) || decide ((s[0]'h0).toNat = 43)) && Num.digits (s.extract 1 s.size).toList) := by
        conv => lhs; rw [et]
        rfl
      rw [sg]
      by_cases c1 : ((s[0]'h0).toNat : Int) = 45
      · refine ev_pos c1 (ev_pos (by omega) (ad.bind ?_))
        rw [decide_eq_true (by omega), Bool.true_or, Bool.true_and]
        cases Num.digits (s.extract 1 s.size).toList with
        | true => exact ev_pos rfl (Ev.now _)
        | false => exact ev_neg (by simp) nx
      · refine ev_neg c1 ?_
        by_cases c2 : ((s[0]'h0).toNat : Int) = 43
        · refine ev_pos c2 (ev_pos (by omega) (ad.bind ?_))
          rw [decide_eq_false (by omega), decide_eq_true (by omega), Bool.false_or, Bool.true_and]
          cases Num.digits (s.extract 1 s.size).toList with
          | true => exact ev_pos rfl (Ev.now _)
          | false => exact ev_neg (by simp) nx
        · refine ev_neg c2 ?_
          rw [decide_eq_false (by omega), decide_eq_false (by omega)]
          exact nx
    · refine ev_neg h1 ?_
      have sg : Seg.signed s.toList = false := by
        have hl : s.toList.length ≤ 1 := by rw [len_toList]; omega
        unfold Seg.signed
        cases hc : s.toList with
        | nil => rfl
        | cons c r =>
          have : r = [] := by rw [hc] at hl; simp at hl; exact hl
          subst this
          simp [Num.digits]
      rw [sg]
      exact nx
theorem idKnown_ev (l : List ByteArray) (hl : l.length < 4611686018427387904) (hs : ∀ s ∈ l, s.size < 4611686018427387904) : Ev (fun k => spec_IdentifiersKnown.f k l) (idK l) := by
  have := idKnown_loop l hl hs l.length 0 (by omega)
  exact this
theorem idK_tl {l : List ByteArray} (h : idK l = true) : ∀ x ∈ tl l, Seg.signed x = false := by
  intro x hx
  obtain ⟨s, hs, rfl⟩ := List.mem_map.1 hx
  unfold idK at h
  rw [List.all_eq_true] at h
  simpa using h s hs
end Go.Proofs.YtfgechefinijbaaDoor.QR

namespace Go.Proofs.YtfgechefinijbaaDoor.QR
open Go.RowKit Go.Proofs.YtfgechefinijbaaDoorW.PrintWords Go.Proofs.YtfgechefinijbaaDoorW.PrintLast Go.Proofs.YtfgechefinijbaaDoor.Pk Go.Proofs.YtfgechefinijbaaDoor.Giv Go.Proofs.YtfgechefinijbaaDoor.Ord
set_option linter.unusedVariables false

/-- A zero ahead of digits. -/
def zer (s : ByteArray) : Bool := decide (1 < s.size) && (decide (bt s 0 = 48) && Num.digits s.toList)
def rbK (l : List ByteArray) : Bool := l.all (fun s => !zer s) && idK l
theorem rbKnown_loop (l : List ByteArray) (hl : l.length < 4611686018427387904) (hs : ∀ s ∈ l, s.size < 4611686018427387904) (d : Nat) : ∀ i : Nat, i + d = l.length → Ev (fun k => spec_RubySegmentsKnown.l0 k l (i : Int)) ((l.drop i).all (fun s => !zer s) && idK l) := by
  induction d with
  | zero =>
    intro i hi
    refine Ev.step (fun k => by rw [spec_RubySegmentsKnown.l0]) ?_
    refine ev_neg (by omega) ?_
    rw [List.drop_of_length_le (by omega), List.all_nil, Bool.true_and]
    exact (idKnown_ev l hl hs).bind (Ev.now _)
  | succ d ih =>
    intro i hi
    have hlt : i < l.length := by omega
    have w := wr i (by omega)
    have r := rdOf_nat ByteArray.empty l i hlt
    have hz := hs _ (List.getElem_mem hlt)
    have nx := ih (i + 1) (by omega)
    rw [List.drop_eq_getElem_cons hlt, List.all_cons, Bool.and_assoc]
    generalize l[i]'hlt = s at *
    refine Ev.step (fun k => by rw [spec_RubySegmentsKnown.l0, w, r]) ?_
    refine ev_pos (by omega) (ev_pos (by omega) ?_)
    unfold zer
    by_cases h1 : (s.size : Int) > 1
    · rw [decide_eq_true (by omega), Bool.true_and]
      refine ev_pos h1 (ev_pos (by omega) ?_)
      by_cases c1 : bt s 0 = 48
      · rw [decide_eq_true c1, Bool.true_and]
        refine ev_pos c1 ((allDigits_ev s hz).bind ?_)
        cases Num.digits s.toList with
        | true => exact ev_pos rfl (Ev.now _)
        | false => exact ev_neg (by simp) nx
      · rw [decide_eq_false c1, Bool.false_and, Bool.not_false, Bool.true_and]
        exact ev_neg c1 nx
    · rw [decide_eq_false (by omega), Bool.false_and, Bool.not_false, Bool.true_and]
      exact ev_neg h1 nx
theorem rbKnown_ev (l : List ByteArray) (hl : l.length < 4611686018427387904) (hs : ∀ s ∈ l, s.size < 4611686018427387904) : Ev (fun k => spec_RubySegmentsKnown.f k l) (rbK l) := rbKnown_loop l hl hs l.length 0 (by omega)
theorem rbK_id {l : List ByteArray} (h : rbK l = true) : idK l = true := by
  unfold rbK at h
  rw [Bool.and_eq_true] at h
  exact h.2

theorem on_l1 (n : Nat) (a : ByteArray) (sa : List UInt8) (ha : Rpm.strip0 a.toList = a.toList) : ∀ b : ByteArray, b.size ≤ n → b.size < 4611686018427387904 → Ev (fun k => spec_orderNumbers.l1 k a b) (if cI a.size (Rpm.strip0 b.toList).length = 0 then cS a.toList (Rpm.strip0 b.toList) else cI a.size (Rpm.strip0 b.toList).length) := by
  have fin : ∀ b : ByteArray, Rpm.strip0 b.toList = b.toList → Ev (fun k => spec_orderNumbers.j3 k a b) (if cI a.size (Rpm.strip0 b.toList).length = 0 then cS a.toList (Rpm.strip0 b.toList) else cI a.size (Rpm.strip0 b.toList).length) := by
    intro b hb
    rw [hb, len_toList]
    refine Ev.step (fun k => by rw [spec_orderNumbers.j3]) ?_
    by_cases h : (a.size : Int) = (b.size : Int)
    · rw [if_pos (cI_zero.2 h)]
      exact ev_pos h (ev_some (Ev.now _))
    · rw [if_neg (fun e => h (cI_zero.1 e))]
      refine ev_neg h ?_
      unfold spec_orderInts.f cI
      by_cases h1 : (a.size : Int) < (b.size : Int)
      · rw [if_pos h1, if_pos h1]
        exact ev_some (Ev.now _)
      · rw [if_neg h1, if_pos (by omega), if_neg h1, if_pos (by omega)]
        exact ev_some (Ev.now _)
  induction n with
  | zero =>
    intro b hb _
    refine Ev.step (fun k => by rw [spec_orderNumbers.l1]) ?_
    refine ev_neg (by omega) (fin b ?_)
    have : b.toList = [] := List.length_eq_zero_iff.1 (by rw [len_toList]; omega)
    rw [this]
    rfl
  | succ n ih =>
    intro b hb hz
    refine Ev.step (fun k => by rw [spec_orderNumbers.l1]) ?_
    by_cases h : (b.size : Int) > 0
    · have h0 : 0 < b.size := by omega
      have et := tail_eq b h0
      refine ev_pos h (ev_pos (by omega) ?_)
      rw [bt_nat b 0 h0 |> (fun e => (e : bt b 0 = _))]
      by_cases c : ((b[0]'h0).toNat : Int) = 48
      · refine ev_pos c (ev_pos (by omega) ?_)
        have z := ih (b.extract 1 b.size) (by rw [ByteArray.size_extract]; omega) (by rw [ByteArray.size_extract]; omega)
        have e : Rpm.strip0 b.toList = Rpm.strip0 (b.extract 1 b.size).toList := by
          conv => lhs; rw [et]
          unfold Rpm.strip0
          rw [List.dropWhile_cons_of_pos (by simp; omega)]
        rw [e]
        exact z
      · refine ev_neg c (fin b ?_)
        conv => lhs; rw [et]
        unfold Rpm.strip0
        rw [List.dropWhile_cons_of_neg (by simp; omega)]
        exact et.symm
    · refine ev_neg h (fin b ?_)
      have : b.toList = [] := List.length_eq_zero_iff.1 (by rw [len_toList]; omega)
      rw [this]
      rfl
theorem on_l0 (n : Nat) (b : ByteArray) (hb : b.size < 4611686018427387904) : ∀ a : ByteArray, a.size ≤ n → a.size < 4611686018427387904 → Ev (fun k => spec_orderNumbers.l0 k a b) (Rpm.numC a.toList b.toList) := by
  have fin : ∀ a : ByteArray, Rpm.strip0 a.toList = a.toList → Ev (fun k => spec_orderNumbers.j1 k a b) (Rpm.numC a.toList b.toList) := by
    intro a ha
    refine Ev.step (fun k => by rw [spec_orderNumbers.j1]) ?_
    have := on_l1 b.size a [] ha b (Nat.le_refl _) hb
    unfold Rpm.numC
    rw [ha, len_toList]
    exact this
  induction n with
  | zero =>
    intro a ha _
    refine Ev.step (fun k => by rw [spec_orderNumbers.l0]) ?_
    refine ev_neg (by omega) (fin a ?_)
    have : a.toList = [] := List.length_eq_zero_iff.1 (by rw [len_toList]; omega)
    rw [this]
    rfl
  | succ n ih =>
    intro a ha hz
    refine Ev.step (fun k => by rw [spec_orderNumbers.l0]) ?_
    by_cases h : (a.size : Int) > 0
    · have h0 : 0 < a.size := by omega
      have et := tail_eq a h0
      refine ev_pos h (ev_pos (by omega) ?_)
      rw [bt_nat a 0 h0 |> (fun e => (e : bt a 0 = _))]
      by_cases c : ((a[0]'h0).toNat : Int) = 48
      · refine ev_pos c (ev_pos (by omega) ?_)
        have z := ih (a.extract 1 a.size) (by rw [ByteArray.size_extract]; omega) (by rw [ByteArray.size_extract]; omega)
        have e : Rpm.strip0 a.toList = Rpm.strip0 (a.extract 1 a.size).toList := by
          conv => lhs; rw [et]
          unfold Rpm.strip0
          rw [List.dropWhile_cons_of_pos (by simp; omega)]
        unfold Rpm.numC at z ⊢
        rw [e]
        exact z
      · refine ev_neg c (fin a ?_)
        conv => lhs; rw [et]
        unfold Rpm.strip0
        rw [List.dropWhile_cons_of_neg (by simp; omega)]
        exact et.symm
    · refine ev_neg h (fin a ?_)
      have : a.toList = [] := List.length_eq_zero_iff.1 (by rw [len_toList]; omega)
      rw [this]
      rfl
theorem orderNumbers_ev (a b : ByteArray) (ha : a.size < 4611686018427387904) (hb : b.size < 4611686018427387904) : Ev (fun k => spec_orderNumbers.f k a b) (Rpm.numC a.toList b.toList) := on_l0 a.size b hb a (Nat.le_refl _) ha
theorem rs_j4 (a b : List ByteArray) (i : Nat) (x y : ByteArray) (hx : x.size < 4611686018427387904) (hy : y.size < 4611686018427387904) (V : Int) (nx : Ev (fun k => spec_RubySegments.l0 k a b (wrap64 ((i : Int) + 1))) V) :
    Ev (fun k => spec_RubySegments.j3 k a b (i : Int) x y) (if Seg.segS x.toList y.toList = 0 then V else Seg.segS x.toList y.toList) := by
  have on := orderNumbers_ev x y hx hy
  refine Ev.step (fun k => by rw [spec_RubySegments.j3]) ?_
  refine (allDigits_ev x hx).bind ((allDigits_ev y hy).bind ?_)
  have tail : ∀ dx dy : Bool, Num.digits x.toList = dx → Num.digits y.toList = dy → Ev (fun k => spec_RubySegments.j4 k a b (i : Int) x y dx dy (dx && dy)) (if Seg.segS x.toList y.toList = 0 then V else Seg.segS x.toList y.toList) := by
    intro dx dy e1 e2
    refine Ev.step (fun k => by rw [spec_RubySegments.j4]) ?_
    unfold Seg.segS
    rw [e1, e2]
    cases dx with
    | true =>
      cases dy with
      | true =>
        refine ev_pos rfl (on.bind ?_)
        simp only [Bool.and_self, if_true]
        by_cases h : Rpm.numC x.toList y.toList = 0
        · rw [if_pos h]
          exact ev_pos h nx
        · rw [if_neg h]
          exact ev_neg h (Ev.now _)
      | false =>
        refine ev_neg (by simp) (ev_pos rfl (ev_neg (by decide) ?_))
        exact Ev.now _
    | false =>
      cases dy with
      | true =>
        refine ev_neg (by simp) (ev_neg (by simp) (ev_pos rfl (ev_neg (by decide) ?_)))
        exact Ev.now _
      | false =>
        refine ev_neg (by simp) (ev_neg (by simp) (ev_neg (by simp) (ev_some ?_)))
        simp only [Bool.and_self, Bool.false_eq_true, if_false]
        by_cases h : cS x.toList y.toList = 0
        · rw [if_pos h]
          exact ev_pos h nx
        · rw [if_neg h]
          exact ev_neg h (Ev.now _)
  cases hd : Num.digits x.toList with
  | true =>
    refine ev_pos rfl ?_
    have := tail true (Num.digits y.toList) hd rfl
    rw [Bool.true_and] at this
    exact this
  | false =>
    refine ev_neg (by simp) ?_
    have := tail false (Num.digits y.toList) hd rfl
    rw [Bool.false_and] at this
    exact this
theorem size_get {l : List ByteArray} (hs : ∀ s ∈ l, s.size < 4611686018427387904) (k : Nat) : (l.getD k ⟨#[48]⟩).size < 4611686018427387904 := by
  rw [List.getD_eq_getElem?_getD]
  cases hk : l[k]? with
  | none => exact Nat.lt_of_le_of_lt z48 (by decide)
  | some x => exact hs x (List.mem_of_getElem? hk)
theorem rs_loop (a b : List ByteArray) (ha : a.length < 4611686018427387904) (hb : b.length < 4611686018427387904) (hsa : ∀ s ∈ a, s.size < 4611686018427387904) (hsb : ∀ s ∈ b, s.size < 4611686018427387904) (n : Nat) (hn : n = max a.length b.length) (d : Nat) : ∀ i : Nat, i + d = n →
    Ev (fun k => spec_RubySegments.l0 k a b (i : Int)) (padN Seg.segS (⟨#[48]⟩ : ByteArray).toList (n - i) ((tl a).drop i) ((tl b).drop i)) := by
  have g : ∀ (l : List ByteArray) (i : Nat) (h : i < l.length), rdOf ByteArray.empty l (i : Int) = l.getD i ⟨#[48]⟩ := by
    intro l i h
    rw [rdOf_nat _ _ i h, List.getD_eq_getElem?_getD, List.getElem?_eq_getElem h]
    rfl
  have g0 : ∀ (l : List ByteArray) (i : Nat) (h : ¬ i < l.length), l.getD i ⟨#[48]⟩ = (⟨#[48]⟩ : ByteArray) := by
    intro l i h
    rw [List.getD_eq_getElem?_getD, List.getElem?_eq_none (by omega)]
    rfl
  induction d with
  | zero =>
    intro i hi
    refine Ev.step (fun k => by rw [spec_RubySegments.l0]) ?_
    rw [show n - i = 0 by omega]
    refine ev_neg (by omega) ?_
    rw [decide_eq_false (by omega)]
    refine Ev.step (fun k => by rw [spec_RubySegments.j1]) ?_
    exact ev_neg (by simp) (Ev.now _)
  | succ d ih =>
    intro i hi
    have w := wr i (by omega)
    have nx := ih (i + 1) (by omega)
    rw [← w] at nx
    have j3 := rs_j4 a b i _ _ (size_get hsa i) (size_get hsb i) _ nx
    rw [pad_step Seg.segS ⟨#[48]⟩ a b n i (by omega)]
    have j2 : Ev (fun k => spec_RubySegments.j2 k a b (i : Int) (a.getD i ⟨#[48]⟩) ⟨#[48]⟩) (if Seg.segS (a.getD i ⟨#[48]⟩).toList (b.getD i ⟨#[48]⟩).toList = 0 then padN Seg.segS (⟨#[48]⟩ : ByteArray).toList (n - (i + 1)) ((tl a).drop (i + 1)) ((tl b).drop (i + 1)) else Seg.segS (a.getD i ⟨#[48]⟩).toList (b.getD i ⟨#[48]⟩).toList) := by
      refine Ev.step (fun k => by rw [spec_RubySegments.j2]) ?_
      by_cases h : i < b.length
      · refine ev_pos (by omega) (ev_pos (by omega) ?_)
        rw [g b i h]
        exact j3
      · refine ev_neg (by omega) ?_
        rw [g0 b i h] at j3 ⊢
        exact j3
    have j1 : Ev (fun k => spec_RubySegments.j1 k a b (i : Int) true) (if Seg.segS (a.getD i ⟨#[48]⟩).toList (b.getD i ⟨#[48]⟩).toList = 0 then padN Seg.segS (⟨#[48]⟩ : ByteArray).toList (n - (i + 1)) ((tl a).drop (i + 1)) ((tl b).drop (i + 1)) else Seg.segS (a.getD i ⟨#[48]⟩).toList (b.getD i ⟨#[48]⟩).toList) := by
      refine Ev.step (fun k => by rw [spec_RubySegments.j1]) ?_
      refine ev_pos rfl ?_
      by_cases h : i < a.length
      · refine ev_pos (by omega) (ev_pos (by omega) ?_)
        rw [g a i h]
        exact j2
      · refine ev_neg (by omega) ?_
        rw [g0 a i h] at j2 ⊢
        exact j2
    refine Ev.step (fun k => by rw [spec_RubySegments.l0]) ?_
    by_cases h : i < a.length
    · exact ev_pos (by omega) j1
    · refine ev_neg (by omega) ?_
      rw [decide_eq_true (by omega)]
      exact j1
theorem specRuby_ev (a b : List ByteArray) (ha : a.length < 4611686018427387904) (hb : b.length < 4611686018427387904) (hsa : ∀ s ∈ a, s.size < 4611686018427387904) (hsb : ∀ s ∈ b, s.size < 4611686018427387904) : Ev (fun k => spec_RubySegments.f k a b) (padL Seg.segS [48] (tl a) (tl b)) := by
  have := rs_loop a b ha hb hsa hsb _ rfl _ 0 (Nat.zero_add _)
  unfold padL
  rw [tl_len, tl_len, ← zero_lit]
  exact this
/-- Over texts without signs the program's order is the reference's. -/
theorem specRuby_same (a b : List ByteArray) (ha : idK a = true) (hb : idK b = true) : padL Seg.segS [48] (tl a) (tl b) = padL Seg.segC [48] (tl a) (tl b) := by
  unfold padL
  refine Seg.padN_congr (p := fun x => Seg.signed x = false) (by decide) (fun x y hx hy => Seg.segS_eq hx hy) _ _ _ (idK_tl ha) (idK_tl hb)
theorem fit_of {l : List ByteArray} (h : shortB l = true) : fit l = true := by
  unfold fit
  rw [Bool.and_eq_true, List.all_eq_true]
  refine ⟨decide_eq_true (by have := short_len h; omega), fun s hs => decide_eq_true (by have := short_sizes h s hs; omega)⟩
theorem small_of {l : List ByteArray} (h : shortB l = true) : l.length < 4611686018427387904 ∧ ∀ s ∈ l, s.size < 4611686018427387904 :=
  ⟨by have := short_len h; omega, fun s hs => by have := short_sizes h s hs; omega⟩
theorem implRuby {a b : List ByteArray} (ha : fit a = true) (hb : fit b = true) : impl_RubySegments.f a b = some (padL Seg.segC [48] (tl a) (tl b)) := by
  unfold impl_RubySegments.f semantic_ZZRubySegments.f Giv.semantic_compareRubyGemsComponents.f
  rw [if_pos ⟨ha, hb⟩]
  rfl
theorem rubyAwake : laws_rubyAwake.f = some true := by
  unfold laws_rubyAwake.f
  rw [implRuby (by decide) (by decide)]
  have e : padL Seg.segC [48] (tl [(⟨#[49]⟩ : ByteArray)]) (tl [(⟨#[50]⟩ : ByteArray)]) = -1 := by
    have l1 : tl [(⟨#[49]⟩ : ByteArray)] = [[49]] := by
      show [(⟨#[49]⟩ : ByteArray).toList] = [[49]]
      rw [lit_toList [49] |> (fun e => (e : (⟨#[49]⟩ : ByteArray).toList = [49]))]
    have l2 : tl [(⟨#[50]⟩ : ByteArray)] = [[50]] := by
      show [(⟨#[50]⟩ : ByteArray).toList] = [[50]]
      rw [lit_toList [50] |> (fun e => (e : (⟨#[50]⟩ : ByteArray).toList = [50]))]
    rw [l1, l2]
    decide
  rw [e]
  rfl
end Go.Proofs.YtfgechefinijbaaDoor.QR
