/- 'short': of lists of texts.
   What the reference answers: digits.
   What the reference's small functions over lists of texts answer: fits, digits, known segments, numbers in digits.
   What the reference answers: numbers in digits compared.
   What the reference answers over identifiers, and over what stands behind a version's numbers.
   'Ascii' of the reference.
   What the reference answers of numbers in decimal: their bytes, and which texts are numbers.
   What the reference answers of two lists of numbers.
   Lists of texts: each is small enough to be told.
   Plain numbers of the statements: what they tell.
   Numbers as the statements tell them.
   What the statements and the reference say of versions like those of SemVer made of plain parts: which are such as a text may have (Plk, without small letters).
   The parts of a version like those of SemVer, as the reference tells them. -/
import Derived.Test.YtdliagehkiihpaaGreatDoorZD
import Derived.Test.YtdliagehkiihpaaGreatDoorQWx
import Derived.Test.YtdliagehkiihpaaGreatDoorZA
import Derived.Test.YtdliagehkiihpaaGreatDoorZY
import Derived.Test.YtdliagehkiihpaaGreatDoorZT
import Derived.Test.YtdliagehkiihpaaGreatDoorZV
import Derived.Test.YtdliagehkiihpaaGreatDoorZBL
import Derived.Test.YtdliagehkiihpaaGreatDoorZW
namespace Go.Proofs.YtdliagehkiihpaaGreatDoor.QW
open Go.RowKit Go.Proofs.YtdliagehkiihpaaGreatDoorW.PrintWords Go.Proofs.YtdliagehkiihpaaGreatDoorW.PrintLast Go.Proofs.YtdliagehkiihpaaGreatDoor.Pk Go.Proofs.YtdliagehkiihpaaGreatDoor.Giv
set_option linter.unusedVariables false

/-- Are all texts short, and not many of them? -/
def shortB (l : List ByteArray) : Bool := l.all (fun s => decide (s.size ≤ 1500)) && decide (l.length ≤ 150)
theorem short_loop (l : List ByteArray) (hl : l.length < 4611686018427387904) (d : Nat) : ∀ i : Nat, i + d = l.length → Ev (fun k => laws_short.l0 k l l (l.length : Int) (i : Int)) ((l.drop i).all (fun s => decide (s.size ≤ 1500)) && decide (l.length ≤ 150)) := by
  induction d with
  | zero =>
    intro i hi
    refine Ev.step (fun k => by rw [laws_short.l0]) ?_
    refine ev_neg (by omega) ?_
    rw [List.drop_of_length_le (by omega)]
    have e : decide ((l.length : Int) ≤ 150) = ([].all (fun s : ByteArray => decide (s.size ≤ 1500)) && decide (l.length ≤ 150)) := by
      rw [List.all_nil, Bool.true_and, decide_eq_decide]
      omega
    rw [← e]
    exact Ev.now _
  | succ d ih =>
    intro i hi
    have hlt : i < l.length := by omega
    have r := rdOf_nat ByteArray.empty l i hlt
    have w := wr i (by omega)
    refine Ev.step (fun k => by rw [laws_short.l0, r, w]) ?_
    refine ev_pos (by omega) (ev_pos (by omega) (ev_pos (by omega) ?_))
    rw [List.drop_eq_getElem_cons hlt, List.all_cons]
    by_cases h : ((l[i].size : Int)) > 1500
    · refine ev_pos h ?_
      have e : decide (l[i].size ≤ 1500) = false := by rw [decide_eq_false_iff_not]; omega
      rw [e]
      exact Ev.now _
    · refine ev_neg h ?_
      have e : decide (l[i].size ≤ 1500) = true := by rw [decide_eq_true_eq]; omega
      rw [e, Bool.true_and]
      exact ih (i + 1) (by omega)
theorem short_ev (l : List ByteArray) (hl : l.length < 4611686018427387904) : Ev (fun k => laws_short.f k l) (shortB l) := short_loop l hl l.length 0 (by omega)
theorem short_sizes {l : List ByteArray} (h : shortB l = true) : ∀ s ∈ l, s.size ≤ 1500 := by
  unfold shortB at h
  rw [Bool.and_eq_true, List.all_eq_true] at h
  intro s hs
  simpa using h.1 s hs
end Go.Proofs.YtdliagehkiihpaaGreatDoor.QW

namespace Go.Proofs.YtdliagehkiihpaaGreatDoor.QW
open Go.RowKit Go.Proofs.YtdliagehkiihpaaGreatDoorW.PrintWords Go.Proofs.YtdliagehkiihpaaGreatDoorW.PrintLast Go.Proofs.YtdliagehkiihpaaGreatDoor.Pk Go.Proofs.YtdliagehkiihpaaGreatDoor.Giv Go.Proofs.YtdliagehkiihpaaGreatDoor.Ord
set_option linter.unusedVariables false

theorem isDigit_f (c : UInt8) : spec_isDigit.f (c.toNat : Int) = some (Rpm.dig c) := by
  unfold spec_isDigit.f Rpm.dig
  by_cases h : (c.toNat : Int) ≥ 48
  · rw [if_pos h]
    congr 1
    rw [decide_eq_decide]
    omega
  · rw [if_neg h]
    congr 1
    rw [eq_comm, decide_eq_false_iff_not]
    omega
theorem allDigits_loop (s : ByteArray) (hs : s.size < 4611686018427387904) (d : Nat) : ∀ i : Nat, i + d = s.size → Ev (fun k => spec_allDigits.l0 k s (i : Int)) ((s.toList.drop i).all Rpm.dig && decide (s.size > 0)) := by
  induction d with
  | zero =>
    intro i hi
    refine Ev.step (fun k => by rw [spec_allDigits.l0]) ?_
    refine ev_neg (by omega) ?_
    rw [List.drop_of_length_le (by rw [len_toList]; omega), List.all_nil, Bool.true_and]
    have e : decide ((s.size : Int) > 0) = decide (s.size > 0) := by rw [decide_eq_decide]; omega
    rw [← e]
    exact Ev.now _
  | succ d ih =>
    intro i hi
    have hlt : i < s.size := by omega
    have w := wr i (by omega)
    refine Ev.step (fun k => by rw [spec_allDigits.l0, bt_nat s i hlt, w, isDigit_f]) ?_
    refine ev_pos (by omega) (ev_pos (by omega) (ev_some ?_))
    rw [drop_at s i hlt, List.all_cons]
    cases hd : Rpm.dig (s[i]'hlt) with
    | true => exact ev_pos rfl (ih (i + 1) (by omega))
    | false => exact ev_neg (by simp) (Ev.now _)
theorem allDigits_ev (s : ByteArray) (hs : s.size < 4611686018427387904) : Ev (fun k => spec_allDigits.f k s) (Num.digits s.toList) := by
  unfold spec_allDigits.f
  have := allDigits_loop s hs s.size 0 (by omega)
  have e : ((s.toList.drop 0).all Rpm.dig && decide (s.size > 0)) = Num.digits s.toList := by
    unfold Num.digits
    rw [List.drop_zero, Bool.and_comm]
    congr 1
    rw [Bool.eq_iff_iff, ← len_toList]
    simp [List.length_pos_iff]
  rw [← e]
  exact this
end Go.Proofs.YtdliagehkiihpaaGreatDoor.QW

namespace Go.Proofs.YtdliagehkiihpaaGreatDoor.QW
open Go.RowKit Go.Proofs.YtdliagehkiihpaaGreatDoorW.PrintWords Go.Proofs.YtdliagehkiihpaaGreatDoorW.PrintLast Go.Proofs.YtdliagehkiihpaaGreatDoor.Pk Go.Proofs.YtdliagehkiihpaaGreatDoor.Giv Go.Proofs.YtdliagehkiihpaaGreatDoor.Ord
set_option linter.unusedVariables false

theorem tail_eq (s : ByteArray) (h : 0 < s.size) : s.toList = s[0]'h :: (s.extract 1 s.size).toList := by
  rw [ext_all]
  have := drop_at s 0 h
  simpa using this
/-- No sign ahead of digits in any. -/
def idK (l : List ByteArray) : Bool := l.all (fun s => !Seg.signed s.toList)
theorem idKnown_loop (l : List ByteArray) (hl : l.length < 4611686018427387904) (hs : ∀ s ∈ l, s.size < 4611686018427387904) (d : Nat) : ∀ i : Nat, i + d = l.length → Ev (fun k => spec_IdentifiersKnown.l0 k l (i : Int)) (idK (l.drop i)) := by
  induction d with
  | zero =>
    intro i hi
    refine Ev.step (fun k => by rw [spec_IdentifiersKnown.l0]) ?_
    refine ev_neg (by omega) ?_
    rw [List.drop_of_length_le (by omega)]
    exact Ev.now _
  | succ d ih =>
    intro i hi
    have hlt : i < l.length := by omega
    have w := wr i (by omega)
    have r := rdOf_nat ByteArray.empty l i hlt
    have hz := hs _ (List.getElem_mem hlt)
    have nx := ih (i + 1) (by omega)
    rw [List.drop_eq_getElem_cons hlt]
    unfold idK at nx ⊢
    rw [List.all_cons]
    generalize l[i]'hlt = s at *
    refine Ev.step (fun k => by rw [spec_IdentifiersKnown.l0, w, r]) ?_
    refine ev_pos (by omega) (ev_pos (by omega) ?_)
    by_cases h1 : (s.size : Int) > 1
    · have h0 : 0 < s.size := by omega
      have et := tail_eq s h0
      have b0 : bt s 0 = ((s[0]'h0).toNat : Int) := bt_nat s 0 h0
      have ad := allDigits_ev (s.extract 1 s.size) (by rw [ByteArray.size_extract]; omega)
      refine ev_pos h1 (ev_pos (by omega) ?_)
      rw [b0]
      have sg : Seg.signed s.toList = ((decide ((s[0]'h0).toNat = 45) || decide ((s[0]'h0).toNat = 43)) && Num.digits (s.extract 1 s.size).toList) := by
        conv => lhs; rw [et]
        rfl
      rw [sg]
      by_cases c1 : ((s[0]'h0).toNat : Int) = 45
      · refine ev_pos c1 (ev_pos (by omega) (ad.bind ?_))
        rw [decide_eq_true (by omega), Bool.true_or, Bool.true_and]
        cases Num.digits (s.extract 1 s.size).toList with
        | true => exact ev_pos rfl (Ev.now _)
        | false => exact ev_neg (by simp) nx
      · refine ev_neg c1 ?_
        by_cases c2 : ((s[0]'h0).toNat : Int) = 43
        · refine ev_pos c2 (ev_pos (by omega) (ad.bind ?_))
          rw [decide_eq_false (by omega), decide_eq_true (by omega), Bool.false_or, Bool.true_and]
          cases Num.digits (s.extract 1 s.size).toList with
          | true => exact ev_pos rfl (Ev.now _)
          | false => exact ev_neg (by simp) nx
        · refine ev_neg c2 ?_
          rw [decide_eq_false (by omega), decide_eq_false (by omega)]
          exact nx
    · refine ev_neg h1 ?_
      have sg : Seg.signed s.toList = false := by
        have hl : s.toList.length ≤ 1 := by rw [len_toList]; omega
        unfold Seg.signed
        cases hc : s.toList with
        | nil => rfl
        | cons c r =>
          have : r = [] := by rw [hc] at hl; simp at hl; exact hl
          subst this
          simp [Num.digits]
      rw [sg]
      exact nx
theorem idKnown_ev (l : List ByteArray) (hl : l.length < 4611686018427387904) (hs : ∀ s ∈ l, s.size < 4611686018427387904) : Ev (fun k => spec_IdentifiersKnown.f k l) (idK l) := by
  have := idKnown_loop l hl hs l.length 0 (by omega)
  exact this
theorem idK_tl {l : List ByteArray} (h : idK l = true) : ∀ x ∈ tl l, Seg.signed x = false := by
  intro x hx
  obtain ⟨s, hs, rfl⟩ := List.mem_map.1 hx
  unfold idK at h
  rw [List.all_eq_true] at h
  simpa using h s hs
end Go.Proofs.YtdliagehkiihpaaGreatDoor.QW

namespace Go.Proofs.YtdliagehkiihpaaGreatDoor.QW
open Go.RowKit Go.Proofs.YtdliagehkiihpaaGreatDoorW.PrintWords Go.Proofs.YtdliagehkiihpaaGreatDoorW.PrintLast Go.Proofs.YtdliagehkiihpaaGreatDoor.Pk Go.Proofs.YtdliagehkiihpaaGreatDoor.Giv Go.Proofs.YtdliagehkiihpaaGreatDoor.Ord
set_option linter.unusedVariables false

theorem on_l1 (n : Nat) (a : ByteArray) (sa : List UInt8) (ha : Rpm.strip0 a.toList = a.toList) : ∀ b : ByteArray, b.size ≤ n → b.size < 4611686018427387904 → Ev (fun k => spec_orderNumbers.l1 k a b) (if cI a.size (Rpm.strip0 b.toList).length = 0 then cS a.toList (Rpm.strip0 b.toList) else cI a.size (Rpm.strip0 b.toList).length) := by
  have fin : ∀ b : ByteArray, Rpm.strip0 b.toList = b.toList → Ev (fun k => spec_orderNumbers.j3 k a b) (if cI a.size (Rpm.strip0 b.toList).length = 0 then cS a.toList (Rpm.strip0 b.toList) else cI a.size (Rpm.strip0 b.toList).length) := by
    intro b hb
    rw [hb, len_toList]
    refine Ev.step (fun k => by rw [spec_orderNumbers.j3]) ?_
    by_cases h : (a.size : Int) = (b.size : Int)
    · rw [if_pos (cI_zero.2 h)]
      exact ev_pos h (ev_some (Ev.now _))
    · rw [if_neg (fun e => h (cI_zero.1 e))]
      refine ev_neg h ?_
      unfold spec_orderInts.f cI
      by_cases h1 : (a.size : Int) < (b.size : Int)
      · rw [if_pos h1, if_pos h1]
        exact ev_some (Ev.now _)
      · rw [if_neg h1, if_pos (by omega), if_neg h1, if_pos (by omega)]
        exact ev_some (Ev.now _)
  induction n with
  | zero =>
    intro b hb _
    refine Ev.step (fun k => by rw [spec_orderNumbers.l1]) ?_
    refine ev_neg (by omega) (fin b ?_)
    have : b.toList = [] := List.length_eq_zero_iff.1 (by rw [len_toList]; omega)
    rw [this]
    rfl
  | succ n ih =>
    intro b hb hz
    refine Ev.step (fun k => by rw [spec_orderNumbers.l1]) ?_
    by_cases h : (b.size : Int) > 0
    · have h0 : 0 < b.size := by omega
      have et := tail_eq b h0
      refine ev_pos h (ev_pos (by omega) ?_)
      rw [bt_nat b 0 h0 |> (fun e => (e : bt b 0 = _))]
      by_cases c : ((b[0]'h0).toNat : Int) = 48
      · refine ev_pos c (ev_pos (by omega) ?_)
        have z := ih (b.extract 1 b.size) (by rw [ByteArray.size_extract]; omega) (by rw [ByteArray.size_extract]; omega)
        have e : Rpm.strip0 b.toList = Rpm.strip0 (b.extract 1 b.size).toList := by
          conv => lhs; rw [et]
          unfold Rpm.strip0
          rw [List.dropWhile_cons_of_pos (by simp; omega)]
        rw [e]
        exact z
      · refine ev_neg c (fin b ?_)
        conv => lhs; rw [et]
        unfold Rpm.strip0
        rw [List.dropWhile_cons_of_neg (by simp; omega)]
        exact et.symm
    · refine ev_neg h (fin b ?_)
      have : b.toList = [] := List.length_eq_zero_iff.1 (by rw [len_toList]; omega)
      rw [this]
      rfl
theorem on_l0 (n : Nat) (b : ByteArray) (hb : b.size < 4611686018427387904) : ∀ a : ByteArray, a.size ≤ n → a.size < 4611686018427387904 → Ev (fun k => spec_orderNumbers.l0 k a b) (Rpm.numC a.toList b.toList) := by
  have fin : ∀ a : ByteArray, Rpm.strip0 a.toList = a.toList → Ev (fun k => spec_orderNumbers.j1 k a b) (Rpm.numC a.toList b.toList) := by
    intro a ha
    refine Ev.step (fun k => by rw [spec_orderNumbers.j1]) ?_
    have := on_l1 b.size a [] ha b (Nat.le_refl _) hb
    unfold Rpm.numC
    rw [ha, len_toList]
    exact this
  induction n with
  | zero =>
    intro a ha _
    refine Ev.step (fun k => by rw [spec_orderNumbers.l0]) ?_
    refine ev_neg (by omega) (fin a ?_)
    have : a.toList = [] := List.length_eq_zero_iff.1 (by rw [len_toList]; omega)
    rw [this]
    rfl
  | succ n ih =>
    intro a ha hz
    refine Ev.step (fun k => by rw [spec_orderNumbers.l0]) ?_
    by_cases h : (a.size : Int) > 0
    · have h0 : 0 < a.size := by omega
      have et := tail_eq a h0
      refine ev_pos h (ev_pos (by omega) ?_)
      rw [bt_nat a 0 h0 |> (fun e => (e : bt a 0 = _))]
      by_cases c : ((a[0]'h0).toNat : Int) = 48
      · refine ev_pos c (ev_pos (by omega) ?_)
        have z := ih (a.extract 1 a.size) (by rw [ByteArray.size_extract]; omega) (by rw [ByteArray.size_extract]; omega)
        have e : Rpm.strip0 a.toList = Rpm.strip0 (a.extract 1 a.size).toList := by
          conv => lhs; rw [et]
          unfold Rpm.strip0
          rw [List.dropWhile_cons_of_pos (by simp; omega)]
        unfold Rpm.numC at z ⊢
        rw [e]
        exact z
      · refine ev_neg c (fin a ?_)
        conv => lhs; rw [et]
        unfold Rpm.strip0
        rw [List.dropWhile_cons_of_neg (by simp; omega)]
        exact et.symm
    · refine ev_neg h (fin a ?_)
      have : a.toList = [] := List.length_eq_zero_iff.1 (by rw [len_toList]; omega)
      rw [this]
      rfl
theorem orderNumbers_ev (a b : ByteArray) (ha : a.size < 4611686018427387904) (hb : b.size < 4611686018427387904) : Ev (fun k => spec_orderNumbers.f k a b) (Rpm.numC a.toList b.toList) := on_l0 a.size b hb a (Nat.le_refl _) ha
end Go.Proofs.YtdliagehkiihpaaGreatDoor.QW

namespace Go.Proofs.YtdliagehkiihpaaGreatDoor.QW
open Go.RowKit Go.Proofs.YtdliagehkiihpaaGreatDoorW.PrintWords Go.Proofs.YtdliagehkiihpaaGreatDoorW.PrintLast Go.Proofs.YtdliagehkiihpaaGreatDoor.Pk Go.Proofs.YtdliagehkiihpaaGreatDoor.Giv Go.Proofs.YtdliagehkiihpaaGreatDoor.Ord
set_option linter.unusedVariables false

theorem em_nil : Cut.em [] = 1 := rfl
theorem em_ne {l : List UInt8} (h : l ≠ []) : Cut.em l = 0 := if_neg h
theorem tl_bs (l : List (List UInt8)) : tl (l.map bs) = l := by
  unfold tl
  rw [List.map_map]
  conv => rhs; rw [← List.map_id l]
  exact List.map_congr_left (fun x _ => bs_toList x)
theorem ordI_f (a b : Int) : spec_orderInts.f a b = some (cI a b) := by
  unfold spec_orderInts.f cI
  by_cases h : a < b
  · rw [if_pos h, if_pos h]
  · rw [if_neg h, if_neg h]
    by_cases h2 : b < a
    · rw [if_pos h2, if_pos h2]
    · rw [if_neg h2, if_neg h2]
theorem pageOne_ev (a b : ByteArray) (ha : a.size < 4611686018427387904) (hb : b.size < 4611686018427387904) : Ev (fun k => spec_pageOne.f k a b) (Seg.idS a.toList b.toList) := by
  have on := orderNumbers_ev a b ha hb
  unfold spec_pageOne.f
  refine (allDigits_ev a ha).bind ((allDigits_ev b hb).bind ?_)
  have tail : ∀ dx dy : Bool, Num.digits a.toList = dx → Num.digits b.toList = dy → Ev (fun k => spec_pageOne.j0 k a b dx dy (dx && dy)) (Seg.idS a.toList b.toList) := by
    intro dx dy e1 e2
    refine Ev.step (fun k => by rw [spec_pageOne.j0]) ?_
    unfold Seg.idS
    rw [e1, e2]
    cases dx with
    | true =>
      cases dy with
      | true => exact ev_pos rfl (on.bind (Ev.now _))
      | false => exact ev_neg (by simp) (ev_pos rfl (Ev.now _))
    | false =>
      cases dy with
      | true => exact ev_neg (by simp) (ev_neg (by simp) (ev_pos rfl (Ev.now _)))
      | false =>
        refine ev_neg (by simp) (ev_neg (by simp) (ev_neg (by simp) ?_))
        unfold Giv.spec_order.f
        exact ev_some (Ev.now _)
  cases hd : Num.digits a.toList with
  | true =>
    refine ev_pos rfl ?_
    have := tail true (Num.digits b.toList) hd rfl
    rw [Bool.true_and] at this
    exact this
  | false =>
    refine ev_neg (by simp) ?_
    have := tail false (Num.digits b.toList) hd rfl
    rw [Bool.false_and] at this
    exact this
theorem ids_loop (a b : List ByteArray) (ha : a.length < 4611686018427387904) (hb : b.length < 4611686018427387904) (hsa : ∀ s ∈ a, s.size < 4611686018427387904) (hsb : ∀ s ∈ b, s.size < 4611686018427387904) (d : Nat) : ∀ i : Nat, i + d = a.length → i ≤ b.length →
    Ev (fun k => spec_Identifiers.l0 k a b (i : Int)) (lexL Seg.idS ((tl a).drop i) ((tl b).drop i)) := by
  have dr : ∀ (l : List ByteArray) (i : Nat) (h : i < l.length), (tl l).drop i = (l[i]'h).toList :: (tl l).drop (i + 1) := by
    intro l i h
    unfold tl
    rw [← List.map_drop, List.drop_eq_getElem_cons h, List.map_cons, List.map_drop]
  have en : ∀ (l : List ByteArray) (i : Nat) (h : ¬ i < l.length), (tl l).drop i = [] := by
    intro l i h
    exact List.drop_of_length_le (by rw [tl_len]; omega)
  have last : ∀ i : Nat, i ≤ a.length → i ≤ b.length → (i = a.length ∨ i = b.length) → Ev (fun k => spec_Identifiers.j1 k a b (i : Int) false) (lexL Seg.idS ((tl a).drop i) ((tl b).drop i)) := by
    intro i hi hj hx
    refine Ev.step (fun k => by rw [spec_Identifiers.j1, ordI_f]) ?_
    refine ev_neg (by simp) (ev_some ?_)
    have e : lexL Seg.idS ((tl a).drop i) ((tl b).drop i) = cI (a.length : Int) (b.length : Int) := by
      by_cases h1 : i < a.length
      · have h2 : ¬ i < b.length := by omega
        rw [dr a i h1, en b i h2, lexL, cI_pos.2 (by omega)]
      · by_cases h2 : i < b.length
        · rw [en a i h1, dr b i h2, lexL, cI_neg.2 (by omega)]
        · rw [en a i h1, en b i h2, lexL, cI_zero.2 (by omega)]
    rw [e]
    exact Ev.now _
  induction d with
  | zero =>
    intro i hi hj
    refine Ev.step (fun k => by rw [spec_Identifiers.l0]) ?_
    exact ev_neg (by omega) (last i (by omega) hj (.inl (by omega)))
  | succ d ih =>
    intro i hi hj
    refine Ev.step (fun k => by rw [spec_Identifiers.l0]) ?_
    refine ev_pos (by omega) ?_
    by_cases h : i < b.length
    · have h1 : i < a.length := by omega
      have w := wr i (by omega)
      have nx := ih (i + 1) (by omega) (by omega)
      rw [← w] at nx
      rw [decide_eq_true (by omega)]
      refine Ev.step (fun k => by rw [spec_Identifiers.j1, rdOf_nat _ _ i h1, rdOf_nat _ _ i h]) ?_
      refine ev_pos rfl (ev_pos (by omega) (ev_pos (by omega) (ev_pos (by omega) ((pageOne_ev _ _ (hsa _ (List.getElem_mem h1)) (hsb _ (List.getElem_mem h))).bind ?_))))
      rw [dr a i h1, dr b i h, lexL]
      by_cases hz : Seg.idS (a[i]'h1).toList (b[i]'h).toList = 0
      · rw [if_pos hz]
        exact ev_pos hz nx
      · rw [if_neg hz]
        exact ev_neg hz (Ev.now _)
    · rw [decide_eq_false (by omega)]
      exact last i (by omega) hj (.inr (by omega))
theorem specIds_ev (a b : List ByteArray) (ha : a.length < 4611686018427387904) (hb : b.length < 4611686018427387904) (hsa : ∀ s ∈ a, s.size < 4611686018427387904) (hsb : ∀ s ∈ b, s.size < 4611686018427387904) : Ev (fun k => spec_Identifiers.f k a b) (lexL Seg.idS (tl a) (tl b)) := by
  have := ids_loop a b ha hb hsa hsb a.length 0 (by omega) (by omega)
  rw [List.drop_zero, List.drop_zero] at this
  exact this
/-- Over identifiers without signs ahead of digits the program's order is the reference's. -/
theorem specIds_same (a b : List ByteArray) (ha : idK a = true) (hb : idK b = true) : lexL Seg.idS (tl a) (tl b) = lexL Seg.idC (tl a) (tl b) :=
  Seg.lexL_congr (p := fun x => Seg.signed x = false) (fun x y hx hy => Seg.idS_eq hx hy) _ _ (idK_tl ha) (idK_tl hb)
theorem liked_small (s : ByteArray) (hs : s.size ≤ 1500) : (liked s.toList).length ≤ 1501 ∧ ∀ x ∈ liked s.toList, x.size ≤ 1500 := by
  have c := Cut.core_len s.toList
  rw [len_toList] at c
  unfold liked
  split
  · exact ⟨by simp, fun x h => absurd h (by simp)⟩
  · obtain ⟨a, b⟩ := Cut.cutAt_sizes 46 (Cut.core s.toList)
    refine ⟨by rw [List.length_map]; omega, fun x h => ?_⟩
    obtain ⟨y, hy, rfl⟩ := List.mem_map.1 h
    rw [bs_size]
    have := b y hy
    omega
theorem liked_nil (s : List UInt8) : (liked s).length = 0 ↔ Cut.core s = [] := by
  unfold liked
  by_cases h : Cut.core s = []
  · rw [if_pos h]
    simp [h]
  · rw [if_neg h, List.length_map]
    have := List.length_pos_iff.2 (Cut.cutAt_ne 46 (Cut.core s))
    constructor
    · omega
    · intro e; exact absurd e h
theorem liked_tl {s : List UInt8} (h : Cut.core s ≠ []) : tl (liked s) = Cut.cutAt 46 (Cut.core s) := by
  unfold liked
  rw [if_neg h, tl_bs]
/-- What stands behind the numbers, by the reference: the program's order. -/
theorem specBuilds_ev (a b : ByteArray) (ha : a.size ≤ 1500) (hb : b.size ≤ 1500) (ka : idK (liked a.toList) = true) (kb : idK (liked b.toList) = true) : Ev (fun k => spec_Builds.f k a b) (Cut.buildC a.toList b.toList) := by
  have ea : Giv.spec_likeIdentifiers.f a = some (liked a.toList) := by unfold Giv.spec_likeIdentifiers.f; rw [if_pos (by omega)]
  have eb : Giv.spec_likeIdentifiers.f b = some (liked b.toList) := by unfold Giv.spec_likeIdentifiers.f; rw [if_pos (by omega)]
  obtain ⟨la, za⟩ := liked_small a ha
  obtain ⟨lb, zb⟩ := liked_small b hb
  have na := liked_nil a.toList
  have nb := liked_nil b.toList
  have mn1 : ∀ n : Nat, mn (n : Int) 1 = if n = 0 then 0 else 1 := fun n => by unfold mn; split <;> split <;> omega
  have none_ : (Cut.core a.toList = [] ∨ Cut.core b.toList = []) → Ev (fun k => spec_Builds.j0 k (liked a.toList) (liked b.toList) true) (Cut.buildC a.toList b.toList) := by
    intro hx
    refine Ev.step (fun k => by rw [spec_Builds.j0, ordI_f, mn1, mn1]) ?_
    refine ev_pos rfl (ev_some ?_)
    unfold Cut.buildC
    by_cases h1 : Cut.core a.toList = []
    · by_cases h2 : Cut.core b.toList = []
      · rw [if_pos (na.2 h1), if_pos (nb.2 h2), h1, h2]
        exact Ev.now _
      · rw [if_pos (na.2 h1), if_neg (fun e => h2 (nb.1 e)), h1, em_nil, em_ne h2]
        exact Ev.now _
    · have h2 : Cut.core b.toList = [] := hx.resolve_left h1
      rw [if_neg (fun e => h1 (na.1 e)), if_pos (nb.2 h2), h2, em_nil, em_ne h1]
      exact Ev.now _
  unfold spec_Builds.f
  rw [ea, eb]
  refine ev_some (ev_some ?_)
  by_cases h1 : Cut.core a.toList = []
  · exact ev_pos (by have := na.2 h1; omega) (none_ (.inl h1))
  · have n1 : ¬ (liked a.toList).length = 0 := fun e => h1 (na.1 e)
    refine ev_neg (by omega) ?_
    by_cases h2 : Cut.core b.toList = []
    · have e : (((liked b.toList).length : Int) == 0) = true := beq_iff_eq.2 (by have := nb.2 h2; omega)
      rw [e]
      exact none_ (.inr h2)
    · have n2 : ¬ (liked b.toList).length = 0 := fun e => h2 (nb.1 e)
      have e : (((liked b.toList).length : Int) == 0) = false := beq_eq_false_iff_ne.2 (by omega)
      rw [e]
      refine Ev.step (fun k => by rw [spec_Builds.j0]) ?_
      have ids := specIds_ev (liked a.toList) (liked b.toList) (by omega) (by omega) (fun x h => by have := za x h; omega) (fun x h => by have := zb x h; omega)
      rw [specIds_same _ _ ka kb, liked_tl h1, liked_tl h2] at ids
      refine ev_neg (by simp) (ids.bind ?_)
      unfold Cut.buildC
      rw [em_ne h1, em_ne h2, if_pos (by decide)]
      exact Ev.now _
end Go.Proofs.YtdliagehkiihpaaGreatDoor.QW

namespace Go.Proofs.YtdliagehkiihpaaGreatDoor.QW
open Go.RowKit Go.Proofs.YtdliagehkiihpaaGreatDoorW.PrintWords Go.Proofs.YtdliagehkiihpaaGreatDoorW.PrintLast Go.Proofs.YtdliagehkiihpaaGreatDoor.Pk Go.Proofs.YtdliagehkiihpaaGreatDoor.Giv
set_option linter.unusedVariables false

def ascB (s : ByteArray) : Bool := s.toList.all (fun c => decide (c.toNat < 128))
theorem ascii_loop (s : ByteArray) (hs : s.size < 4611686018427387904) (d : Nat) : ∀ i : Nat, i + d = s.size → Ev (fun k => spec_Ascii.l0 k s (i : Int)) ((s.toList.drop i).all (fun c => decide (c.toNat < 128))) := by
  induction d with
  | zero =>
    intro i hi
    refine Ev.step (fun k => by rw [spec_Ascii.l0]) ?_
    refine ev_neg (by omega) ?_
    rw [List.drop_of_length_le (by rw [len_toList]; omega)]
    exact Ev.now _
  | succ d ih =>
    intro i hi
    have hlt : i < s.size := by omega
    have b := bt_nat s i hlt
    have w := wr i (by omega)
    refine Ev.step (fun k => by rw [spec_Ascii.l0, b, w]) ?_
    refine ev_pos (by omega) (ev_pos (by omega) ?_)
    rw [drop_at s i hlt, List.all_cons]
    by_cases h : (((s[i]'hlt).toNat : Int)) > 127
    · refine ev_pos h ?_
      rw [show decide ((s[i]'hlt).toNat < 128) = false by rw [decide_eq_false_iff_not]; omega]
      exact Ev.now _
    · refine ev_neg h ?_
      rw [show decide ((s[i]'hlt).toNat < 128) = true by rw [decide_eq_true_eq]; omega, Bool.true_and]
      exact ih (i + 1) (by omega)
theorem ascii_ev (s : ByteArray) (hs : s.size < 4611686018427387904) : Ev (fun k => spec_Ascii.f k s) (ascB s) := ascii_loop s hs s.size 0 (by omega)
end Go.Proofs.YtdliagehkiihpaaGreatDoor.QW

namespace Go.Proofs.YtdliagehkiihpaaGreatDoor.QW
open Go.RowKit Go.Proofs.YtdliagehkiihpaaGreatDoorW.PrintWords Go.Proofs.YtdliagehkiihpaaGreatDoorW.PrintLast Go.Proofs.YtdliagehkiihpaaGreatDoor.Pk Go.Proofs.YtdliagehkiihpaaGreatDoor.Giv Go.Proofs.YtdliagehkiihpaaGreatDoor.Ord
set_option linter.unusedVariables false

def wi (l : List Nat) : List Int := l.map Int.ofNat
theorem wi_len (l : List Nat) : (wi l).length = l.length := by simp [wi]
theorem wi_rd (p : List Nat) (x : Nat) (r : List Nat) : rd (wi (p ++ x :: r)) (p.length : Int) = (x : Int) := by
  rw [rd_nat _ _ (by rw [wi_len]; simp)]
  simp [wi]
theorem wi_set (p : List Nat) (x : Nat) (r : List Nat) (y : Nat) : (wi (p ++ x :: r)).set p.length (y : Int) = wi (p ++ y :: r) := by
  unfold wi
  rw [List.map_append, List.map_cons, List.set_append_right _ _ (by simp), List.length_map, Nat.sub_self, List.map_append, List.map_cons]
  rfl
theorem io_step (c x : Nat) (hc : c ≤ 9) (hx : x < 256) : (Int.tmod (wrap64 ((c : Int) + (wrap64 (10 * (wrap64 (x : Int)))))) 256) % 256 = (((c + 10 * x) % 256 : Nat) : Int) ∧ wrap64 (Int.tdiv (wrap64 ((c : Int) + (wrap64 (10 * (wrap64 (x : Int)))))) 256) = (((c + 10 * x) / 256 : Nat) : Int) := by
  have w1 : wrap64 (x : Int) = x := by unfold wrap64; omega
  have w2 : wrap64 (10 * (x : Int)) = 10 * x := by unfold wrap64; omega
  have w3 : wrap64 ((c : Int) + 10 * x) = ((c + 10 * x : Nat) : Int) := by unfold wrap64; omega
  rw [w1, w2, w3]
  have a : Int.tmod ((c + 10 * x : Nat) : Int) 256 = (((c + 10 * x) % 256 : Nat) : Int) := Int.ofNat_tmod _ _ |>.symm
  have b : Int.tdiv ((c + 10 * x : Nat) : Int) 256 = (((c + 10 * x) / 256 : Nat) : Int) := Int.ofNat_tdiv _ _ |>.symm
  rw [a, b]
  refine ⟨by omega, by unfold wrap64; omega⟩
theorem io_l1 (s : ByteArray) (i : Nat) (V : Bool × ByteArray) (r : List Nat) : ∀ (p : List Nat) (c : Nat), c ≤ 9 → (∀ x ∈ r, x < 256) → p.length + r.length < 100000 → Ev (fun k => spec_intOf.l0 k s (wi (p ++ Lb.ma c r)) (wrap64 ((i : Int) + 1))) V → Ev (fun k => spec_intOf.l1 k s (wi (p ++ r)) (i : Int) (c : Int) (p.length : Int)) V := by
  induction r with
  | nil =>
    intro p c hc _ hl nx
    rw [List.append_nil]
    refine Ev.step (fun k => by rw [spec_intOf.l1]) ?_
    refine ev_neg (by rw [wi_len]; omega) ?_
    rw [Lb.ma] at nx
    by_cases hz : c = 0
    · rw [if_pos hz, List.append_nil] at nx
      exact ev_neg (by omega) nx
    · rw [if_neg hz] at nx
      refine ev_pos (by omega) (ev_pos (by rw [wi_len]; omega) ?_)
      have e : wi p ++ [(c : Int) % 256] = wi (p ++ [c]) := by
        unfold wi
        rw [List.map_append, show (c : Int) % 256 = (c : Int) by omega]
        rfl
      rw [e]
      exact nx
  | cons x r ih =>
    intro p c hc hs hl nx
    have hx := hs x List.mem_cons_self
    have w := wr p.length (by simp at hl; omega)
    obtain ⟨a, b⟩ := io_step c x hc hx
    have z := ih (p ++ [(c + 10 * x) % 256]) ((c + 10 * x) / 256) (by omega) (fun y hy => hs y (List.mem_cons_of_mem _ hy)) (by simp at hl ⊢; omega) (by
      rw [Lb.ma] at nx
      rw [List.append_assoc]
      exact nx)
    rw [List.append_assoc, List.length_append, List.length_singleton] at z
    refine Ev.step (fun k => by rw [spec_intOf.l1, wi_rd, a, b, w, Int.toNat_natCast, wi_set]) ?_
    refine ev_pos (by rw [wi_len]; simp; omega) (ev_pos (by omega) ?_)
    exact z
theorem io_l2 (l : List Nat) (hl : l.length < 100000) (d : Nat) : ∀ j : Nat, j + d = l.length → Ev (fun k => spec_intOf.l2 k (wi l) (wi (List.replicate (l.length - j) 0 ++ (l.take j).reverse)) (j : Int)) (false, strOfNums (wi l.reverse)) := by
  induction d with
  | zero =>
    intro j hj
    refine Ev.step (fun k => by rw [spec_intOf.l2]) ?_
    refine ev_neg (by rw [wi_len]; omega) ?_
    rw [show l.length - j = 0 by omega, List.replicate_zero, List.nil_append, List.take_of_length_le (by omega)]
    exact Ev.now _
  | succ d ih =>
    intro j hj
    have hlt : j < l.length := by omega
    have w := wr j (by omega)
    have w1 : wrap64 ((wrap64 (((wi l).length : Int) - 1)) - (j : Int)) = ((l.length - 1 - j : Nat) : Int) := by
      rw [wi_len]
      unfold wrap64
      omega
    have r : rd (wi l) (j : Int) = ((l[j]'hlt : Nat) : Int) := by
      rw [rd_nat _ _ (by rw [wi_len]; exact hlt)]
      simp [wi]
    have e : (wi (List.replicate (l.length - j) 0 ++ (l.take j).reverse)).set (l.length - 1 - j) ((l[j]'hlt : Nat) : Int) = wi (List.replicate (l.length - (j + 1)) 0 ++ (l.take (j + 1)).reverse) := by
      have q := wi_set (List.replicate (l.length - (j + 1)) 0) 0 (l.take j).reverse (l[j]'hlt)
      rw [List.length_replicate] at q
      rw [show l.length - j = (l.length - (j + 1)) + 1 by omega, List.replicate_succ', List.append_assoc, List.take_succ_eq_append_getElem hlt, List.reverse_append, show l.length - 1 - j = l.length - (j + 1) by omega]
      exact q
    have z := ih (j + 1) (by omega)
    refine Ev.step (fun k => by rw [spec_intOf.l2, w1, r, w, Int.toNat_natCast, e]) ?_
    refine ev_pos (by rw [wi_len]; omega) (ev_pos (by omega) (ev_pos (by omega) (ev_pos ?_ z)))
    rw [wi_len, List.length_append, List.length_replicate, List.length_reverse, List.length_take]
    omega
theorem strOf_mag (n : Nat) : strOfNums (wi (Lb.lb n).reverse) = bs (Lb.mag n) := by
  unfold strOfNums bs Lb.mag wi
  rw [List.map_map]
  rfl
theorem io_l0 (s : ByteArray) (hs : s.size ≤ 40000) (ha : s.toList.all Rpm.dig = true) (d : Nat) : ∀ i : Nat, i + d = s.size → Ev (fun k => spec_intOf.l0 k s (wi (Lb.lb (Num.dec (s.toList.take i)))) (i : Int)) (false, bs (Lb.mag (Num.dec s.toList))) := by
  have len : ∀ i, (Lb.lb (Num.dec (s.toList.take i))).length ≤ 40000 := by
    intro i
    have h := Num.dec_lt (s.toList.take i) (by
      rw [List.all_eq_true] at ha ⊢
      intro x hx
      exact ha x (List.mem_of_mem_take hx))
    have := Lb.lb_len _ _ h
    rw [List.length_take, len_toList] at this
    omega
  induction d with
  | zero =>
    intro i hi
    have l := len i
    rw [List.take_of_length_le (by rw [len_toList]; omega)] at l ⊢
    refine Ev.step (fun k => by rw [spec_intOf.l0]) ?_
    refine ev_neg (by omega) (ev_pos (by omega) (ev_pos (by rw [wi_len]; omega) ?_))
    have := io_l2 (Lb.lb (Num.dec s.toList)) (by omega) _ 0 (Nat.zero_add _)
    rw [strOf_mag] at this
    have e : List.replicate (((wi (Lb.lb (Num.dec s.toList))).length : Int)).toNat (0 : Int) = wi (List.replicate ((Lb.lb (Num.dec s.toList)).length - 0) 0 ++ ((Lb.lb (Num.dec s.toList)).take 0).reverse) := by
      rw [Int.toNat_natCast, wi_len]
      simp [wi]
    rw [e]
    exact this
  | succ d ih =>
    intro i hi
    have hlt : i < s.size := by omega
    have l := len i
    have hd : Rpm.dig (s[i]'hlt) = true := by
      rw [List.all_eq_true] at ha
      exact ha _ (by rw [← getElem_toList s i hlt]; exact List.getElem_mem _)
    have hd' : 48 ≤ (s[i]'hlt).toNat ∧ (s[i]'hlt).toNat ≤ 57 := by simpa [Rpm.dig] using hd
    have z := ih (i + 1) (by omega)
    rw [take_next' s i hlt, Num.dec_snoc, Nat.mul_comm, ← Lb.ma_lb _ _ (by omega)] at z
    have w := wr i (by omega)
    rw [← w] at z
    have e : ((((s[i]'hlt).toNat : Int) - 48) % 256) = (((s[i]'hlt).toNat - 48 : Nat) : Int) := by omega
    refine Ev.step (fun k => by rw [spec_intOf.l0, bt_nat s i hlt, e]) ?_
    refine ev_pos (by omega) (ev_pos (by omega) ?_)
    exact io_l1 s i _ _ [] _ (by omega) (Lb.lb_small _) (by simp; omega) z
theorem intOf_ev (s : ByteArray) (hs : s.size ≤ 40000) (ha : s.toList.all Rpm.dig = true) : Ev (fun k => spec_intOf.f k s) (false, bs (Lb.mag (Num.dec s.toList))) := by
  have := io_l0 s hs ha _ 0 (Nat.zero_add _)
  rw [List.take_zero, Num.dec_nil, Lb.lb_zero] at this
  exact this
/-- A number as the program tells it. -/
def told (z : Int) : Bool × ByteArray := (decide (z < 0), bs (Lb.mag z.natAbs))
end Go.Proofs.YtdliagehkiihpaaGreatDoor.QW

namespace Go.Proofs.YtdliagehkiihpaaGreatDoor.QW
open Go.RowKit Go.Proofs.YtdliagehkiihpaaGreatDoorW.PrintWords Go.Proofs.YtdliagehkiihpaaGreatDoorW.PrintLast Go.Proofs.YtdliagehkiihpaaGreatDoor.Pk Go.Proofs.YtdliagehkiihpaaGreatDoor.Giv Go.Proofs.YtdliagehkiihpaaGreatDoor.Ord
set_option linter.unusedVariables false

theorem told_zero : told 0 = (false, (⟨#[]⟩ : ByteArray)) := by
  unfold told
  rw [show (0 : Int).natAbs = 0 from rfl, Lb.mag_zero]
  rfl
theorem tidy_ev (z : Int) : Ev (fun k => spec_numTidy.f k (told z).1 (told z).2) (told z) := by
  unfold spec_numTidy.f
  refine Ev.step (fun k => by rw [spec_numTidy.l0]) ?_
  unfold told
  dsimp only
  cases e : Lb.mag z.natAbs with
  | nil =>
    have z0 := Lb.mag_nil e
    have hz : ¬ z < 0 := by omega
    rw [decide_eq_false hz]
    refine ev_neg (by rw [bs_size]; simp) (ev_neg (by simp) ?_)
    exact Ev.now _
  | cons c r =>
    have hc := Lb.mag_head _ c r e
    refine ev_pos (by rw [bs_size, List.length_cons]; omega) (ev_pos (by rw [bs_size, List.length_cons]; omega) ?_)
    rw [bs_bt0]
    refine ev_neg (fun h => hc (UInt8.toNat_inj.1 (by rw [show (0 : UInt8).toNat = 0 from rfl]; omega))) ?_
    by_cases hz : z < 0
    · rw [decide_eq_true hz, bs_toList, show ((c :: r) != ([] : List UInt8)) = true from rfl]
      refine ev_pos rfl ?_
      exact Ev.now _
    · rw [decide_eq_false hz]
      refine ev_neg (by simp) ?_
      exact Ev.now _
theorem orderInts_f (a b : Int) : spec_orderInts.f a b = some (cI a b) := by
  unfold spec_orderInts.f cI
  by_cases h : a < b
  · rw [if_pos h, if_pos h]
  · rw [if_neg h, if_neg h]
    by_cases h2 : b < a
    · rw [if_pos h2, if_pos h2]
    · rw [if_neg h2, if_neg h2]
theorem intOrder_j2 (p q : Bool) (a b : Nat) : Ev (fun k => spec_intOrder.j2 k p (bs (Lb.mag a)) q (bs (Lb.mag b))) (cI a b) := by
  have m := Lb.magC_eq a b
  unfold Lb.magC at m
  refine Ev.step (fun k => by rw [spec_intOrder.j2]) ?_
  rw [bs_size, bs_size]
  by_cases h : (Lb.mag a).length = (Lb.mag b).length
  · rw [if_pos h] at m
    refine ev_pos (by omega) ?_
    have : Giv.spec_order.f (bs (Lb.mag a)) (bs (Lb.mag b)) = some (cI a b) := by
      unfold Giv.spec_order.f
      rw [bs_toList, bs_toList, m]
    rw [this]
    exact ev_some (Ev.now _)
  · rw [if_neg h] at m
    refine ev_neg (by omega) ?_
    rw [orderInts_f, m]
    exact ev_some (Ev.now _)
theorem intOrder_ev (z y : Int) : Ev (fun k => spec_intOrder.f k (told z).1 (told z).2 (told y).1 (told y).2) (cI z y) := by
  unfold spec_intOrder.f
  refine (tidy_ev z).bind ((tidy_ev y).bind ?_)
  by_cases hz : z < 0
  · have e1 : (told z).1 = true := decide_eq_true hz
    by_cases hy : y < 0
    · have e2 : (told y).1 = true := decide_eq_true hy
      rw [e1, e2]
      refine ev_pos rfl ?_
      refine Ev.step (fun k => by rw [spec_intOrder.j0]) ?_
      refine ev_neg (by simp) (ev_pos rfl ?_)
      refine Ev.step (fun k => by rw [spec_intOrder.j1]) ?_
      refine ev_neg (by simp) (ev_pos rfl ?_)
      have := intOrder_j2 true true y.natAbs z.natAbs
      rw [show cI ((y.natAbs : Nat) : Int) ((z.natAbs : Nat) : Int) = cI z y by unfold cI; repeat' split; all_goals omega] at this
      exact this
    · have e2 : (told y).1 = false := decide_eq_false hy
      rw [e1, e2]
      refine ev_pos rfl ?_
      refine Ev.step (fun k => by rw [spec_intOrder.j0]) ?_
      rw [show cI z y = -1 by unfold cI; rw [if_pos (by omega)]]
      exact ev_pos rfl (Ev.now _)
  · have e1 : (told z).1 = false := decide_eq_false hz
    by_cases hy : y < 0
    · have e2 : (told y).1 = true := decide_eq_true hy
      rw [e1, e2]
      refine ev_neg (by simp) ?_
      refine Ev.step (fun k => by rw [spec_intOrder.j0]) ?_
      refine ev_neg (by simp) (ev_neg (by simp) ?_)
      refine Ev.step (fun k => by rw [spec_intOrder.j1]) ?_
      rw [show cI z y = 1 by unfold cI; rw [if_neg (by omega), if_pos (by omega)]]
      exact ev_pos rfl (Ev.now _)
    · have e2 : (told y).1 = false := decide_eq_false hy
      rw [e1, e2]
      refine ev_neg (by simp) ?_
      refine Ev.step (fun k => by rw [spec_intOrder.j0]) ?_
      refine ev_neg (by simp) (ev_neg (by simp) ?_)
      refine Ev.step (fun k => by rw [spec_intOrder.j1]) ?_
      refine ev_neg (by simp) (ev_neg (by simp) ?_)
      have := intOrder_j2 false false z.natAbs y.natAbs
      rw [show cI ((z.natAbs : Nat) : Int) ((y.natAbs : Nat) : Int) = cI z y by unfold cI; repeat' split; all_goals omega] at this
      exact this
/-- Numbers as the program tells them. -/
def nl (zs : List Int) : List S64 := zs.map (fun z => ⟨(told z).1, (told z).2⟩)
theorem nl_len (zs : List Int) : (nl zs).length = zs.length := by simp [nl]
theorem nl_rd (zs : List Int) (i : Nat) (h : i < zs.length) : rd_T64 (nl zs) (i : Int) = ⟨(told (zs.getD i 0)).1, (told (zs.getD i 0)).2⟩ := by
  unfold rd_T64 nl
  rw [Int.toNat_natCast, List.getD_eq_getElem?_getD, List.getD_eq_getElem?_getD, List.getElem?_map, List.getElem?_eq_getElem h]
  rfl
theorem nl_none (zs : List Int) (i : Nat) (h : ¬ i < zs.length) : zs.getD i 0 = 0 := by
  rw [List.getD_eq_getElem?_getD, List.getElem?_eq_none (by omega)]
  rfl
theorem pad_num (zs ys : List Int) (n i : Nat) (h : i < n) : padN cI 0 (n - i) (zs.drop i) (ys.drop i) = if cI (zs.getD i 0) (ys.getD i 0) = 0 then padN cI 0 (n - (i + 1)) (zs.drop (i + 1)) (ys.drop (i + 1)) else cI (zs.getD i 0) (ys.getD i 0) := by
  have g : ∀ l : List Int, (l.drop i).headD 0 = l.getD i 0 := by
    intro l
    rw [List.headD_eq_head?_getD, List.head?_drop, List.getD_eq_getElem?_getD]
  rw [show n - i = (n - (i + 1)) + 1 by omega]
  simp only [padN]
  rw [g, g, List.tail_drop, List.tail_drop]
theorem cn_loop (zs ys : List Int) (hz : zs.length < 4611686018427387904) (hy : ys.length < 4611686018427387904) (n : Nat) (hn : n = max zs.length ys.length) (d : Nat) : ∀ i : Nat, i + d = n → Ev (fun k => spec_CompareNumbers.l0 k (nl zs) (nl ys) (i : Int)) (padN cI 0 (n - i) (zs.drop i) (ys.drop i)) := by
  induction d with
  | zero =>
    intro i hi
    refine Ev.step (fun k => by rw [spec_CompareNumbers.l0]) ?_
    rw [nl_len, nl_len, show n - i = 0 by omega]
    refine ev_neg (by omega) ?_
    rw [decide_eq_false (by omega)]
    refine Ev.step (fun k => by rw [spec_CompareNumbers.j1]) ?_
    exact ev_neg (by simp) (Ev.now _)
  | succ d ih =>
    intro i hi
    have w := wr i (by omega)
    have nx := ih (i + 1) (by omega)
    rw [← w] at nx
    rw [pad_num zs ys n i (by omega)]
    obtain ⟨R, hR⟩ : ∃ R, R = (if cI (zs.getD i 0) (ys.getD i 0) = 0 then padN cI 0 (n - (i + 1)) (zs.drop (i + 1)) (ys.drop (i + 1)) else cI (zs.getD i 0) (ys.getD i 0)) := ⟨_, rfl⟩
    rw [← hR]
    have j3 : Ev (fun k => (spec_intOrder.f k (told (zs.getD i 0)).1 (told (zs.getD i 0)).2 (told (ys.getD i 0)).1 (told (ys.getD i 0)).2).bind fun t => if t = 0 then spec_CompareNumbers.l0 k (nl zs) (nl ys) (wrap64 ((i : Int) + 1)) else some t) R := by
      refine (intOrder_ev _ _).bind ?_
      by_cases h : cI (zs.getD i 0) (ys.getD i 0) = 0
      · rw [if_pos h] at hR
        rw [hR]
        exact ev_pos h nx
      · rw [if_neg h] at hR
        rw [hR]
        exact ev_neg h (Ev.now _)
    clear hR
    have j2 : Ev (fun k => spec_CompareNumbers.j2 k (nl zs) (nl ys) (i : Int) (told (zs.getD i 0)).1 (told (zs.getD i 0)).2 false ⟨#[]⟩) R := by
      refine Ev.step (fun k => by rw [spec_CompareNumbers.j2]) ?_
      rw [nl_len]
      by_cases h : i < ys.length
      · refine ev_pos (by omega) (ev_pos (by omega) ?_)
        rw [nl_rd ys i h]
        exact j3
      · refine ev_neg (by omega) ?_
        have g := nl_none ys i h
        generalize ys.getD i 0 = y at *
        subst g
        rw [told_zero] at j3
        exact j3
    have j1 : Ev (fun k => spec_CompareNumbers.j1 k (nl zs) (nl ys) (i : Int) true) R := by
      refine Ev.step (fun k => by rw [spec_CompareNumbers.j1]) ?_
      refine ev_pos rfl ?_
      rw [nl_len]
      by_cases h : i < zs.length
      · refine ev_pos (by omega) (ev_pos (by omega) ?_)
        rw [nl_rd zs i h]
        exact j2
      · refine ev_neg (by omega) ?_
        have g := nl_none zs i h
        generalize zs.getD i 0 = y at *
        subst g
        rw [told_zero] at j2
        exact j2
    refine Ev.step (fun k => by rw [spec_CompareNumbers.l0]) ?_
    rw [nl_len, nl_len]
    by_cases h : i < zs.length
    · exact ev_pos (by omega) j1
    · refine ev_neg (by omega) ?_
      rw [decide_eq_true (by omega)]
      exact j1
theorem compareNumbers_ev (zs ys : List Int) (hz : zs.length < 4611686018427387904) (hy : ys.length < 4611686018427387904) : Ev (fun k => spec_CompareNumbers.f k (nl zs) (nl ys)) (padL cI 0 zs ys) :=
  cn_loop zs ys hz hy _ rfl _ 0 (Nat.zero_add _)
end Go.Proofs.YtdliagehkiihpaaGreatDoor.QW

namespace Go.Proofs.YtdliagehkiihpaaGreatDoor.QW
open Go.RowKit Go.Proofs.YtdliagehkiihpaaGreatDoorW.PrintWords Go.Proofs.YtdliagehkiihpaaGreatDoorW.PrintLast Go.Proofs.YtdliagehkiihpaaGreatDoor.Pk Go.Proofs.YtdliagehkiihpaaGreatDoor.Giv Go.Proofs.YtdliagehkiihpaaGreatDoor.Ord
set_option linter.unusedVariables false

theorem fits_loop (l : List ByteArray) (hl : l.length < 4611686018427387904) (d : Nat) : ∀ i : Nat, i + d = l.length → Tm (fun k => laws_zzFits1.l0 k l (l.length : Int) (i : Int)) := by
  induction d with
  | zero =>
    intro i hi
    refine Tm.step (fun k => by rw [laws_zzFits1.l0]) ?_
    exact Tm.ite (fun h => absurd h (by omega)) (fun _ => Tm.now _)
  | succ d ih =>
    intro i hi
    have w := wr i (by omega)
    refine Tm.step (fun k => by rw [laws_zzFits1.l0, w]) ?_
    refine Tm.ite (fun _ => Tm.ite (fun _ => Tm.ite (fun _ => Tm.ite (fun _ => Tm.now _) (fun _ => ?_)) (fun h => absurd (by omega) h)) (fun h => absurd (by omega) h)) (fun h => absurd (by omega) h)
    exact ih (i + 1) (by omega)
/-- Fits: it tells, and a list that fits is not long. -/
theorem fits_ev (l : List ByteArray) : ∃ b, Ev (fun k => laws_zzFits1.f k l) b ∧ (b = true → l.length ≤ 2147483647) := by
  unfold laws_zzFits1.f
  by_cases h : (l.length : Int) > 2147483647
  · exact ⟨false, ev_pos h (Ev.now _), fun e => by cases e⟩
  · obtain ⟨b, e⟩ := fits_loop l (by omega) l.length 0 (by omega)
    exact ⟨b, ev_neg h e, fun _ => by omega⟩
end Go.Proofs.YtdliagehkiihpaaGreatDoor.QW

namespace Go.Proofs.YtdliagehkiihpaaGreatDoor.Giv
open Go.RowKit Go.Proofs.YtdliagehkiihpaaGreatDoorW.PrintWords Go.Proofs.YtdliagehkiihpaaGreatDoorW.PrintLast Go.Proofs.YtdliagehkiihpaaGreatDoor.Pk Go.Proofs.YtdliagehkiihpaaGreatDoor.Ord Go.Proofs.YtdliagehkiihpaaGreatDoor.QW
set_option linter.unusedVariables false
/-- What plain numbers of the statements tell. -/
def zn (l : List S64) : List Int := l.map fun x => zOf x.f0 x.f1
theorem zn_len (l : List S64) : (zn l).length = l.length := by simp [zn]
def small (l : List S64) : Bool := decide (l.length ≤ 100000) && l.all (fun x => decide (x.f1.size ≤ 100000))
theorem small_len {l : List S64} (h : small l = true) : l.length ≤ 100000 := by
  unfold small at h
  rw [Bool.and_eq_true] at h
  exact of_decide_eq_true h.1
end Go.Proofs.YtdliagehkiihpaaGreatDoor.Giv

namespace Go.Proofs.YtdliagehkiihpaaGreatDoor.Giv
open Go.RowKit Go.Proofs.YtdliagehkiihpaaGreatDoorW.PrintWords Go.Proofs.YtdliagehkiihpaaGreatDoorW.PrintLast Go.Proofs.YtdliagehkiihpaaGreatDoor.Pk Go.Proofs.YtdliagehkiihpaaGreatDoor.Ord Go.Proofs.YtdliagehkiihpaaGreatDoor.QW
set_option linter.unusedVariables false
def pn (zs : List Int) : List S64 := zs.map (fun z => ⟨decide (z < 0), bs (Lb.mag z.natAbs)⟩)
end Go.Proofs.YtdliagehkiihpaaGreatDoor.Giv

namespace Go.Proofs.YtdliagehkiihpaaGreatDoor.QW
open Go.RowKit Go.Proofs.YtdliagehkiihpaaGreatDoorW.PrintWords Go.Proofs.YtdliagehkiihpaaGreatDoorW.PrintLast Go.Proofs.YtdliagehkiihpaaGreatDoor.Pk Go.Proofs.YtdliagehkiihpaaGreatDoor.Giv Go.Proofs.YtdliagehkiihpaaGreatDoor.Ord
set_option linter.unusedVariables false
set_option linter.unusedSimpArgs false
theorem tidy_ok (ng : Bool) : ∀ l : List UInt8, ∃ t : Bool × ByteArray, Ev (fun k => spec_numTidy.l0 k ng (bs l)) t ∧ t.2.toList.length ≤ l.length ∧ (t.2.toList.length = l.length → (∀ c r, l = c :: r → c ≠ 0) ∧ t = ((if ng = true then l != [] else false), bs l))
  | [] => by
    refine ⟨((if ng = true then ([] : List UInt8) != [] else false), bs []), ?_, by rw [bs_toList]; exact Nat.le_refl _, fun _ => ⟨(fun c r h => by cases h), rfl⟩⟩
    refine Ev.step (fun k => by rw [spec_numTidy.l0]) ?_
    refine ev_neg (by rw [bs_size]; simp) ?_
    rw [bs_toList]
    cases ng with
    | true => exact ev_pos rfl (Ev.now _)
    | false => exact ev_neg (by simp) (Ev.now _)
  | c :: r => by
    have hp : ((bs (c :: r)).size : Int) > 0 := by rw [bs_size, List.length_cons]; omega
    by_cases hc : c = 0
    · obtain ⟨t, h1, h2, _⟩ := tidy_ok ng r
      refine ⟨t, ?_, by rw [List.length_cons]; omega, fun e => by rw [List.length_cons] at e; omega⟩
      refine Ev.step (fun k => by rw [spec_numTidy.l0, bs_tail]) ?_
      exact ev_pos hp (ev_pos (by omega) (ev_pos (by rw [bs_bt0, hc]; rfl) (ev_pos (by omega) h1)))
    · refine ⟨((if ng = true then (c :: r) != [] else false), bs (c :: r)), ?_, by rw [bs_toList]; exact Nat.le_refl _, fun _ => ⟨(fun a b h => by cases h; exact hc), rfl⟩⟩
      refine Ev.step (fun k => by rw [spec_numTidy.l0]) ?_
      have hn : ¬ (bt (bs (c :: r)) 0 = 0) := by
        rw [bs_bt0]
        intro e
        exact hc (UInt8.toNat_inj.1 (by rw [show (0 : UInt8).toNat = 0 from rfl]; omega))
      refine ev_pos hp (ev_pos (by omega) (ev_neg hn ?_))
      rw [bs_toList]
      cases ng with
      | true => exact ev_pos rfl (Ev.now _)
      | false => exact ev_neg (by simp) (Ev.now _)
theorem intOK_ev (ng : Bool) (s : ByteArray) : ∃ b, Ev (fun k => spec_IntOK.f k ng s) b ∧ (b = true → (ng, s) = told (zOf ng s)) := by
  obtain ⟨t, h1, h2, h3⟩ := tidy_ok ng s.toList
  rw [← bs_of s] at h1
  unfold spec_IntOK.f spec_numTidy.f
  refine ⟨_, h1.bind (Ev.now _), fun h => ?_⟩
  rw [Bool.and_eq_true, beq_iff_eq, beq_iff_eq] at h
  obtain ⟨hz, e⟩ := h3 (by rw [h.2])
  have hm := Lb.mag_be s.toList.length s.toList rfl hz
  have hb : s = bs s.toList := bs_of s
  rw [e] at h
  unfold told zOf
  cases ng with
  | false =>
    rw [if_neg (by simp), show ((Dg.be s.toList : Nat) : Int).natAbs = Dg.be s.toList by omega, hm, ← hb, decide_eq_false (by omega)]
  | true =>
    have hne : s.toList ≠ [] := by
      have := h.1
      simpa using this
    have hp : Dg.be s.toList ≠ 0 := by
      intro h0
      rw [h0, Lb.mag_zero] at hm
      exact hne hm.symm
    rw [if_pos rfl, show (-((Dg.be s.toList : Nat) : Int)).natAbs = Dg.be s.toList by omega, hm, ← hb, decide_eq_true (by omega)]
theorem intOK_tm (ng : Bool) (s : ByteArray) : Tm (fun k => spec_IntOK.f k ng s) := by
  obtain ⟨b, h, _⟩ := intOK_ev ng s
  exact ⟨b, h⟩
theorem rdT_nat (l : List S64) (i : Nat) (h : i < l.length) : rd_T64 l (i : Int) = l[i]'h := by
  unfold rd_T64
  rw [Int.toNat_natCast, List.getD_eq_getElem?_getD, List.getElem?_eq_getElem h]
  rfl
theorem numbers_loop (l : List S64) (hl : l.length < 4611686018427387904) (d : Nat) : ∀ i : Nat, i + d = l.length → ∃ b, Ev (fun k => laws_numbers.l0 k l l (l.length : Int) (i : Int)) b ∧ (b = true → (∀ j, i ≤ j → ∀ h : j < l.length, (l[j]'h).f1.size ≤ 1500 ∧ ((l[j]'h).f0, (l[j]'h).f1) = told (zOf (l[j]'h).f0 (l[j]'h).f1)) ∧ l.length ≤ 150) := by
  induction d with
  | zero =>
    intro i hi
    refine ⟨decide ((l.length : Int) ≤ 150), ?_, fun h => ⟨fun j h1 h2 => absurd h2 (by omega), by have := of_decide_eq_true h; omega⟩⟩
    refine Ev.step (fun k => by rw [laws_numbers.l0]) ?_
    exact ev_neg (by omega) (Ev.now _)
  | succ d ih =>
    intro i hi
    have hlt : i < l.length := by omega
    have w := wr i (by omega)
    have r := rdT_nat l i hlt
    obtain ⟨q, hq, hk⟩ := ih (i + 1) (by omega)
    obtain ⟨t, ht, hto⟩ := intOK_ev (l[i]'hlt).f0 (l[i]'hlt).f1
    cases t with
    | false =>
      refine ⟨false, ?_, fun h => by cases h⟩
      refine Ev.step (fun k => by rw [laws_numbers.l0, r, w]) ?_
      exact ev_pos (by omega) (ev_pos (by omega) (ev_pos (by omega) (Ev.bind ht (ev_neg (by simp) (Ev.now _)))))
    | true =>
      by_cases hs : ((l[i]'hlt).f1.size : Int) > 1500
      · refine ⟨false, ?_, fun h => by cases h⟩
        refine Ev.step (fun k => by rw [laws_numbers.l0, r, w]) ?_
        exact ev_pos (by omega) (ev_pos (by omega) (ev_pos (by omega) (Ev.bind ht (ev_pos rfl (ev_pos hs (Ev.now _))))))
      · refine ⟨q, ?_, fun h => ⟨fun j h1 h2 => ?_, (hk h).2⟩⟩
        · refine Ev.step (fun k => by rw [laws_numbers.l0, r, w]) ?_
          exact ev_pos (by omega) (ev_pos (by omega) (ev_pos (by omega) (Ev.bind ht (ev_pos rfl (ev_neg hs hq)))))
        · by_cases e : j = i
          · subst e
            exact ⟨by omega, hto rfl⟩
          · exact (hk h).1 j (by omega) h2
theorem numbers_ev (l : List S64) (hl : l.length < 4611686018427387904) : ∃ b, Ev (fun k => laws_numbers.f k l) b ∧ (b = true → small l = true ∧ l = nl (zn l)) := by
  obtain ⟨b, hb, hk⟩ := numbers_loop l hl l.length 0 (Nat.zero_add _)
  refine ⟨b, hb, fun h => ?_⟩
  obtain ⟨h1, h2⟩ := hk h
  refine ⟨?_, ?_⟩
  · unfold small
    rw [Bool.and_eq_true, List.all_eq_true]
    refine ⟨decide_eq_true (by omega), fun x hx => decide_eq_true ?_⟩
    obtain ⟨j, hj, rfl⟩ := List.mem_iff_getElem.1 hx
    have := (h1 j (Nat.zero_le _) hj).1
    omega
  · unfold nl zn
    rw [List.map_map]
    refine List.ext_getElem (by simp) (fun j hj hj2 => ?_)
    rw [List.getElem_map]
    have := (h1 j (Nat.zero_le _) hj).2
    show l[j] = ⟨(told (zOf (l[j]'hj).f0 (l[j]'hj).f1)).1, (told (zOf (l[j]'hj).f0 (l[j]'hj).f1)).2⟩
    rw [← this]
theorem buildK_ev (s : ByteArray) (hs : s.size ≤ 1500) : ∃ b, Ev (fun k => spec_BuildKnown.f k s) b ∧ (b = true → ascB s = true ∧ idK (liked s.toList) = true) := by
  obtain ⟨l, z⟩ := liked_small s hs
  have e : Giv.spec_likeIdentifiers.f s = some (liked s.toList) := by unfold Giv.spec_likeIdentifiers.f; rw [if_pos (by omega)]
  have a := ascii_ev s (by omega)
  have i := idKnown_ev (liked s.toList) (by omega) (fun x h => by have := z x h; omega)
  unfold spec_BuildKnown.f
  cases h : ascB s with
  | false =>
    rw [h] at a
    exact ⟨false, a.bind (ev_neg (by simp) (Ev.now _)), fun h => absurd h (by simp)⟩
  | true =>
    rw [h] at a
    refine ⟨idK (liked s.toList), a.bind (ev_pos rfl ?_), fun h => ⟨rfl, h⟩⟩
    rw [e]
    exact ev_some (i.bind (Ev.now _))
theorem intsOK_tm (l : List S64) (hl : l.length < 4611686018427387904) (d : Nat) : ∀ i : Nat, i + d = l.length → Tm (fun k => spec_IntsOK.l0 k l (i : Int)) := by
  induction d with
  | zero =>
    intro i hi
    refine Tm.step (fun k => by rw [spec_IntsOK.l0]) ?_
    exact Tm.ite (fun h => absurd h (by omega)) (fun _ => Tm.now _)
  | succ d ih =>
    intro i hi
    have w := wr i (by omega)
    refine Tm.step (fun k => by rw [spec_IntsOK.l0, w]) ?_
    exact Tm.ite (fun _ => Tm.ite (fun _ => Tm.bind (intOK_tm _ _) (fun _ => Tm.ite (fun _ => ih (i + 1) (by omega)) (fun _ => Tm.now _))) (fun h => absurd (by omega) h)) (fun h => absurd (by omega) h)
theorem likeOK_loop (v : Bool) (l : List S64) (b o : ByteArray) (hl : l.length < 4611686018427387904) (hs : b.size ≤ 1500) (d : Nat) : ∀ i : Nat, i + d = l.length → ∃ q, Ev (fun k => spec_LikeOK.l0 k (i : Int) v l b o) q ∧ (q = true → ascB b = true ∧ idK (liked b.toList) = true) := by
  induction d with
  | zero =>
    intro i hi
    obtain ⟨t, ht⟩ := intsOK_tm l hl l.length 0 (Nat.zero_add _)
    obtain ⟨q, hq, hk⟩ := buildK_ev b hs
    cases t with
    | false =>
      refine ⟨false, ?_, fun h => by cases h⟩
      refine Ev.step (fun k => by rw [spec_LikeOK.l0]) ?_
      unfold spec_IntsOK.f
      exact ev_neg (by omega) (ht.bind (ev_neg (by simp) (Ev.now _)))
    | true =>
      cases q with
      | false =>
        refine ⟨false, ?_, fun h => by cases h⟩
        refine Ev.step (fun k => by rw [spec_LikeOK.l0]) ?_
        unfold spec_IntsOK.f
        exact ev_neg (by omega) (ht.bind (ev_pos rfl (hq.bind (ev_neg (by simp) (Ev.now _)))))
      | true =>
        have t2 : Tm (fun _ : Nat => (if b.toList = ([] : List UInt8) then some true else if 0 < (b.size : Int) then (spec_isDigit.f (bt b 0)).bind fun t => if t = true then some false else some (bt b 0 != 46) else none : Option Bool)) := by
          by_cases hb : b.toList = ([] : List UInt8)
          · exact ⟨true, ev_pos hb (Ev.now _)⟩
          · have hp : 0 < (b.size : Int) := by
              have := List.length_pos_iff.2 hb
              rw [len_toList] at this
              omega
            refine Tm.ite (fun h => absurd h hb) (fun _ => Tm.ite (fun _ => ?_) (fun h => absurd hp h))
            have t3 : Tm (fun _ : Nat => spec_isDigit.f (bt b 0)) := by
              unfold spec_isDigit.f
              first | exact Tm.now _ | exact Tm.ite (fun _ => Tm.now _) (fun _ => Tm.now _)
            exact Tm.bind t3 (fun _ => Tm.ite (fun _ => Tm.now _) (fun _ => Tm.now _))
        obtain ⟨p, hp⟩ := t2
        refine ⟨p, ?_, fun _ => hk rfl⟩
        refine Ev.step (fun k => by rw [spec_LikeOK.l0]) ?_
        unfold spec_IntsOK.f
        exact ev_neg (by omega) (ht.bind (ev_pos rfl (hq.bind (ev_pos rfl hp))))
  | succ d ih =>
    intro i hi
    have w := wr i (by omega)
    obtain ⟨q, hq, hk⟩ := ih (i + 1) (by omega)
    by_cases hn : (rd_T64 l (i : Int)).f0 = true
    · refine ⟨false, ?_, fun h => by cases h⟩
      refine Ev.step (fun k => by rw [spec_LikeOK.l0, w]) ?_
      exact ev_pos (by omega) (ev_pos (by omega) (ev_pos hn (Ev.now _)))
    · refine ⟨q, ?_, hk⟩
      refine Ev.step (fun k => by rw [spec_LikeOK.l0, w]) ?_
      exact ev_pos (by omega) (ev_pos (by omega) (ev_neg hn hq))
/-- What the statements' condition tells of a version. -/
structure Lkd (a : S37) : Prop where
  small : small a.f1 = true
  told : a.f1 = nl (zn a.f1)
  size : a.f2.size ≤ 1500
  asc : ascB a.f2 = true
  ids : idK (liked a.f2.toList) = true
theorem rdL_nat (l : List S37) (i : Nat) (h : i < l.length) : rd_T37 l (i : Int) = l[i]'h := by
  unfold rd_T37
  rw [Int.toNat_natCast, List.getD_eq_getElem?_getD, List.getElem?_eq_getElem h]
  rfl
theorem likes_loop (l : List S37) (hl : l.length < 4611686018427387904) (hf : ∀ x ∈ l, x.f1.length < 4611686018427387904) (d : Nat) : ∀ i : Nat, i + d = l.length → ∃ q, Ev (fun k => laws_likes.l0 k l (l.length : Int) (i : Int)) q ∧ (q = true → ∀ j, i ≤ j → ∀ h : j < l.length, Lkd (l[j]'h)) := by
  induction d with
  | zero =>
    intro i hi
    refine ⟨true, ?_, fun _ j h1 h2 => absurd h2 (by omega)⟩
    refine Ev.step (fun k => by rw [laws_likes.l0]) ?_
    exact ev_neg (by omega) (Ev.now _)
  | succ d ih =>
    intro i hi
    have hlt : i < l.length := by omega
    have w := wr i (by omega)
    have r := rdL_nat l i hlt
    obtain ⟨q, hq, hk⟩ := ih (i + 1) (by omega)
    have hfi := hf _ (List.getElem_mem hlt)
    have sh := short_ev [(l[i]'hlt).f2, (l[i]'hlt).f3] (by simp)
    obtain ⟨nb, en, sn⟩ := numbers_ev (l[i]'hlt).f1 hfi
    have st : ∀ {g : Nat → Option Bool} {p : Bool}, Ev (fun k => (laws_short.f k [(l[i]'hlt).f2, (l[i]'hlt).f3]).bind fun t => if t = true then g k else some false) p → Ev (fun k => (laws_short.f k [(l[i]'hlt).f2, (l[i]'hlt).f3]).bind fun t => if t = true then g k else some false) p := fun h => h
    cases hsh : shortB [(l[i]'hlt).f2, (l[i]'hlt).f3] with
    | false =>
      rw [hsh] at sh
      refine ⟨false, ?_, fun h => by cases h⟩
      refine Ev.step (fun k => by rw [laws_likes.l0, r, w]) ?_
      exact ev_pos (by omega) (ev_pos (by omega) (ev_pos (by omega) (sh.bind (ev_neg (by simp) (Ev.now _)))))
    | true =>
      rw [hsh] at sh
      have hz := short_sizes hsh (l[i]'hlt).f2 (by simp)
      cases nb with
      | false =>
        refine ⟨false, ?_, fun h => by cases h⟩
        refine Ev.step (fun k => by rw [laws_likes.l0, r, w]) ?_
        exact ev_pos (by omega) (ev_pos (by omega) (ev_pos (by omega) (sh.bind (ev_pos rfl (en.bind (ev_neg (by simp) (Ev.now _)))))))
      | true =>
        obtain ⟨p, ep, sp⟩ := likeOK_loop (l[i]'hlt).f0 (l[i]'hlt).f1 (l[i]'hlt).f2 (l[i]'hlt).f3 hfi hz (l[i]'hlt).f1.length 0 (Nat.zero_add _)
        have ep' : Ev (fun k => spec_LikeOK.f k (l[i]'hlt).f0 (l[i]'hlt).f1 (l[i]'hlt).f2 (l[i]'hlt).f3) p := ep
        cases p with
        | false =>
          refine ⟨false, ?_, fun h => by cases h⟩
          refine Ev.step (fun k => by rw [laws_likes.l0, r, w]) ?_
          exact ev_pos (by omega) (ev_pos (by omega) (ev_pos (by omega) (sh.bind (ev_pos rfl (en.bind (ev_pos rfl (ep'.bind (ev_neg (by simp) (Ev.now _)))))))))
        | true =>
          refine ⟨q, ?_, fun h j h1 h2 => ?_⟩
          · refine Ev.step (fun k => by rw [laws_likes.l0, r, w]) ?_
            exact ev_pos (by omega) (ev_pos (by omega) (ev_pos (by omega) (sh.bind (ev_pos rfl (en.bind (ev_pos rfl (ep'.bind (ev_pos rfl hq))))))))
          · by_cases e : j = i
            · subst e
              exact ⟨(sn rfl).1, (sn rfl).2, hz, (sp rfl).1, (sp rfl).2⟩
            · exact hk h j (by omega) h2
theorem likes_one (a : S37) (ha : a.f1.length ≤ 2147483647) : ∃ q, Ev (fun k => laws_likes.f k [a]) q ∧ (q = true → Lkd a) := by
  obtain ⟨q, e, s⟩ := likes_loop [a] (by simp) (fun x hx => by rw [List.mem_singleton.1 hx]; omega) 1 0 rfl
  exact ⟨q, e, fun h => s h 0 (Nat.le_refl _) (by simp)⟩
/-- The reference's order of two such versions: the program's. -/
theorem semver_ev (a b : S37) (ha : Lkd a) (hb : Lkd b) : Ev (fun k => spec_SemverCompare.f k a.f0 a.f1 a.f2 a.f3 b.f0 b.f1 b.f2 b.f3) (smC (zn a.f1) (zn b.f1) a.f2.toList b.f2.toList, true) := by
  have z : ∀ {l : List S64}, small l = true → (zn l).length < 4611686018427387904 := fun h => by rw [zn_len]; have := small_len h; omega
  have cn := compareNumbers_ev (zn a.f1) (zn b.f1) (z ha.small) (z hb.small)
  rw [← ha.told, ← hb.told] at cn
  have sb := specBuilds_ev a.f2 b.f2 ha.size hb.size ha.ids hb.ids
  unfold spec_SemverCompare.f spec_likeOrder.f
  refine Ev.bind (cn.bind ?_) (Ev.now _)
  unfold smC
  by_cases h : padL cI 0 (zn a.f1) (zn b.f1) = 0
  · rw [if_pos h]
    exact ev_pos h (sb.bind (Ev.now _))
  · rw [if_neg h]
    exact ev_neg h (Ev.now _)
end Go.Proofs.YtdliagehkiihpaaGreatDoor.QW

namespace Go.Proofs.YtdliagehkiihpaaGreatDoor.QW
open Go.RowKit Go.Proofs.YtdliagehkiihpaaGreatDoorW.PrintWords Go.Proofs.YtdliagehkiihpaaGreatDoorW.PrintLast Go.Proofs.YtdliagehkiihpaaGreatDoor.Pk Go.Proofs.YtdliagehkiihpaaGreatDoor.Giv Go.Proofs.YtdliagehkiihpaaGreatDoor.Ord
set_option linter.unusedVariables false
theorem cut_sub (c : UInt8) : ∀ (l : List UInt8) (p : List UInt8), p ∈ Cut.cutAt c l → ∀ x ∈ p, x ∈ l ∧ x ≠ c
  | [], p, h => fun x hx => by
    have h : p ∈ [[]] := h
    rw [List.mem_singleton.1 h] at hx
    exact absurd hx List.not_mem_nil
  | y :: r, p, h => fun x hx => by
    unfold Cut.cutAt at h
    by_cases hy : y = c
    · rw [if_pos hy] at h
      rcases List.mem_cons.1 h with e | h
      · rw [e] at hx
        exact absurd hx List.not_mem_nil
      · obtain ⟨h1, h2⟩ := cut_sub c r p h x hx
        exact ⟨List.mem_cons_of_mem _ h1, h2⟩
    · rw [if_neg hy] at h
      cases he : Cut.cutAt c r with
      | nil => exact absurd he (Cut.cutAt_ne c r)
      | cons a t =>
        rw [he] at h
        rcases List.mem_cons.1 h with e | h
        · rw [e] at hx
          rcases List.mem_cons.1 hx with e2 | hx
          · rw [e2]; exact ⟨List.mem_cons_self, hy⟩
          · obtain ⟨h1, h2⟩ := cut_sub c r a (by rw [he]; exact List.mem_cons_self) x hx
            exact ⟨List.mem_cons_of_mem _ h1, h2⟩
        · obtain ⟨h1, h2⟩ := cut_sub c r p (by rw [he]; exact List.mem_cons_of_mem _ h) x hx
          exact ⟨List.mem_cons_of_mem _ h1, h2⟩
def pnN (ps : List (List UInt8)) : List S64 := (ps.filter (fun q => !q.isEmpty)).map (fun q => ⟨false, bs (Lb.mag (Num.dec q))⟩)
theorem pnN_eq (ps : List (List UInt8)) : pnN ps = pn (Slk.nonE ps) := by
  unfold pnN Slk.nonE pn
  rw [List.map_map]
  refine List.map_congr_left (fun q _ => ?_)
  show (⟨false, bs (Lb.mag (Num.dec q))⟩ : S64) = ⟨decide ((Num.dec q : Int) < 0), bs (Lb.mag ((Num.dec q : Int)).natAbs)⟩
  rw [decide_eq_false (by omega), Int.natAbs_natCast]
theorem lp_l1 (x : ByteArray) (e : Nat) (he : e ≤ x.size) (lv : Bool) (b o : ByteArray) (ps : List (List UInt8)) (hl : ps.length < 1000000) (hp : ∀ q ∈ ps, q.length ≤ 40000 ∧ q.all Rpm.dig = true) (d : Nat) : ∀ (i : Nat) (acc : List S64), i + d = ps.length → acc.length ≤ i → Ev (fun k => spec_LikeParse.l1 k x (e : Int) (ps.map bs) (i : Int) lv acc b o) (lv, acc ++ pnN (ps.drop i), x.extract e x.size, o) := by
  induction d with
  | zero =>
    intro i acc hi ha
    refine Ev.step (fun k => by rw [spec_LikeParse.l1, List.length_map, Int.toNat_natCast]) ?_
    refine ev_neg (by omega) (ev_pos (by omega) (ev_pos (by omega) ?_))
    rw [List.drop_of_length_le (by omega)]
    show Ev (fun _ => some (lv, acc, x.extract e x.size, o)) (lv, acc ++ [], x.extract e x.size, o)
    rw [List.append_nil]
    exact Ev.now _
  | succ d ih =>
    intro i acc hi ha
    have hlt : i < ps.length := by omega
    have w := wr i (by omega)
    have hr : rdOf ByteArray.empty (ps.map bs) (i : Int) = bs (ps[i]'hlt) := by
      rw [rdOf_nat _ _ i (by rw [List.length_map]; exact hlt), List.getElem_map]
    refine Ev.step (fun k => by rw [spec_LikeParse.l1, List.length_map, hr, w, bs_toList]) ?_
    refine ev_pos (by omega) (ev_pos (by omega) ?_)
    rw [List.drop_eq_getElem_cons hlt]
    obtain ⟨h1, h2⟩ := hp _ (List.getElem_mem hlt)
    generalize ps[i]'hlt = q at *
    by_cases h0 : q = []
    · refine ev_pos h0 ?_
      have := ih (i + 1) acc (by omega) (by omega)
      rw [h0]
      exact this
    · have io := intOf_ev (bs q) (by rw [bs_size]; exact h1) (by rw [bs_toList]; exact h2)
      rw [bs_toList] at io
      refine ev_neg h0 (io.bind (ev_pos (by omega) ?_))
      have := ih (i + 1) (acc ++ [⟨false, bs (Lb.mag (Num.dec q))⟩]) (by omega) (by rw [List.length_append, List.length_singleton]; omega)
      have e2 : pnN (q :: ps.drop (i + 1)) = ⟨false, bs (Lb.mag (Num.dec q))⟩ :: pnN (ps.drop (i + 1)) := by
        unfold pnN
        rw [List.filter_cons_of_pos (by cases q with | nil => exact absurd rfl h0 | cons => rfl), List.map_cons]
      rw [e2]
      rw [List.append_assoc] at this
      exact this
theorem tw_at (l : List UInt8) : ∀ (i : Nat), (l.take i).all Slk.dp = true → i ≤ l.length → (∀ h : i < l.length, Slk.dp (l[i]'h) = false) → (l.takeWhile Slk.dp).length = i := by
  induction l with
  | nil =>
    intro i _ hi _
    have e : i = 0 := Nat.le_zero.1 hi
    rw [e]
    rfl
  | cons c r ih =>
    intro i ht hi hn
    cases i with
    | zero =>
      have := hn (by simp)
      rw [List.takeWhile_cons_of_neg (by simpa using this)]
      rfl
    | succ i =>
      rw [List.take_succ_cons, List.all_cons, Bool.and_eq_true] at ht
      rw [List.takeWhile_cons_of_pos ht.1, List.length_cons, ih i ht.2 (by simpa using hi) (fun h => hn (by simpa using h))]
theorem lp_j3 (x : ByteArray) (hx : x.size ≤ 40000) (lv : Bool) (b o : ByteArray) : Ev (fun k => spec_LikeParse.j3 k x (((x.toList.takeWhile Slk.dp).length : Nat) : Int) lv b o) (lv, pn (Slk.nonE (Cut.cutAt 46 (x.toList.takeWhile Slk.dp))), bs (x.toList.dropWhile Slk.dp), o) := by
  have he : (x.toList.takeWhile Slk.dp).length ≤ x.size := by
    rw [← len_toList]
    exact tw_le _ _
  have ex : x.extract 0 (((x.toList.takeWhile Slk.dp).length : Nat) : Int).toNat = bs (x.toList.takeWhile Slk.dp) := bs_eq (by rw [Int.toNat_natCast, ext_head, take_tw])
  have cf : Giv.spec_cut_isPoint.f (bs (x.toList.takeWhile Slk.dp)) = some ((Cut.cutAt 46 (x.toList.takeWhile Slk.dp)).map bs) := by
    unfold Giv.spec_cut_isPoint.f
    rw [if_pos (by rw [bs_size]; omega), bs_toList]
  obtain ⟨c1, c2⟩ := Cut.cutAt_sizes 46 (x.toList.takeWhile Slk.dp)
  refine Ev.step (fun k => by rw [spec_LikeParse.j3, ex, cf]) ?_
  refine ev_pos (by omega) (ev_pos (by omega) (ev_some ?_))
  have := lp_l1 x (x.toList.takeWhile Slk.dp).length he lv b o (Cut.cutAt 46 (x.toList.takeWhile Slk.dp)) (by omega) (fun q hq => ⟨by have := c2 q hq; omega, by
    rw [List.all_eq_true]
    intro c hc
    obtain ⟨h1, h2⟩ := cut_sub 46 _ q hq c hc
    have h3 := (List.all_eq_true.1 (List.all_takeWhile (p := Slk.dp) (l := x.toList))) c h1
    unfold Slk.dp at h3
    rcases Bool.or_eq_true _ _ ▸ h3 with h | h
    · exact h
    · exact absurd (by simpa using h) h2⟩) _ 0 [] (Nat.zero_add _) (Nat.le_refl _)
  rw [List.drop_zero, List.nil_append, pnN_eq] at this
  have e2 : x.extract (x.toList.takeWhile Slk.dp).length x.size = bs (x.toList.dropWhile Slk.dp) := bs_eq (by rw [ext_all, drop_tw])
  rw [e2] at this
  exact this
theorem lp_l0 (x : ByteArray) (hx : x.size ≤ 40000) (lv : Bool) (b o : ByteArray) (d : Nat) : ∀ i : Nat, i + d = x.size → (x.toList.take i).all Slk.dp = true → Ev (fun k => spec_LikeParse.l0 k x (i : Int) lv b o) (lv, pn (Slk.nonE (Cut.cutAt 46 (x.toList.takeWhile Slk.dp))), bs (x.toList.dropWhile Slk.dp), o) := by
  have j3 := lp_j3 x hx lv b o
  induction d with
  | zero =>
    intro i hi ha
    have e := tw_at x.toList i ha (by rw [len_toList]; omega) (fun h => by rw [len_toList] at h; omega)
    rw [e] at j3
    refine Ev.step (fun k => by rw [spec_LikeParse.l0]) ?_
    exact ev_neg (by omega) j3
  | succ d ih =>
    intro i hi ha
    have hlt : i < x.size := by omega
    have w := wr i (by omega)
    have hg : x.toList[i]'(by rw [len_toList]; exact hlt) = x[i]'hlt := by
      simp only [toList_eq']
      rfl
    have stop : Slk.dp (x[i]'hlt) = false → Ev (fun k => spec_LikeParse.j3 k x (i : Int) lv b o) (lv, pn (Slk.nonE (Cut.cutAt 46 (x.toList.takeWhile Slk.dp))), bs (x.toList.dropWhile Slk.dp), o) := fun h => by
      have e := tw_at x.toList i ha (by rw [len_toList]; omega) (fun h' => by rw [hg]; exact h)
      rw [e] at j3
      exact j3
    have next : Slk.dp (x[i]'hlt) = true → Ev (fun k => spec_LikeParse.l0 k x ((i + 1 : Nat) : Int) lv b o) (lv, pn (Slk.nonE (Cut.cutAt 46 (x.toList.takeWhile Slk.dp))), bs (x.toList.dropWhile Slk.dp), o) := fun h => by
      refine ih (i + 1) (by omega) ?_
      rw [List.take_succ_eq_append_getElem (by rw [len_toList]; exact hlt), List.all_append, ha, hg]
      simp [h]
    refine Ev.step (fun k => by rw [spec_LikeParse.l0, bt_nat x i hlt, isDigit_f, w]) ?_
    refine ev_pos (by omega) (ev_pos (by omega) (ev_some ?_))
    cases hd : Rpm.dig (x[i]'hlt) with
    | true => exact ev_pos rfl (next (by unfold Slk.dp; rw [hd]; rfl))
    | false =>
      refine ev_neg (by simp) ?_
      by_cases h46 : ((x[i]'hlt).toNat : Int) = 46
      · exact ev_pos h46 (next (by unfold Slk.dp; rw [UInt8.toNat_inj.1 (show (x[i]'hlt).toNat = (46 : UInt8).toNat from by show _ = 46; omega)]; rfl))
      · refine ev_neg h46 (stop ?_)
        unfold Slk.dp
        rw [hd, Bool.false_or]
        refine beq_eq_false_iff_ne.2 (fun e => h46 ?_)
        rw [e]
        rfl
theorem likeParse_ev (s : ByteArray) (hs : s.size ≤ 40000) : Ev (fun k => spec_LikeParse.f k s) (Slk.lead s.toList, pn (Slk.parse s.toList).1, bs (Slk.parse s.toList).2, s) := by
  have run : ∀ (x : ByteArray) (lv : Bool), x.size ≤ 40000 → Ev (fun k => spec_LikeParse.j1 k x lv ⟨#[]⟩ s) (lv, pn (Slk.slk [] [] x.toList).1, bs (Slk.slk [] [] x.toList).2, s) := fun x lv hx => by
    have := lp_l0 x hx lv ⟨#[]⟩ s x.size 0 (by omega) rfl
    rw [Slk.slk_runs x.toList [] [] rfl]
    refine Ev.step (fun k => by rw [spec_LikeParse.j1]) ?_
    exact this
  have go : ∀ lv : Bool, lv = Slk.lead s.toList → (lv = true → 0 < s.size) → Ev (fun k => spec_LikeParse.j0 k s lv false ⟨#[]⟩ s) (Slk.lead s.toList, pn (Slk.parse s.toList).1, bs (Slk.parse s.toList).2, s) := fun lv hl hp => by
    refine Ev.step (fun k => by rw [spec_LikeParse.j0]) ?_
    unfold Slk.parse Slk.body
    rw [← hl]
    cases lv with
    | true =>
      have h0 := hp rfl
      have e : s.extract 1 s.size = bs s.toList.tail := bs_eq (by rw [ext_all, List.drop_one])
      refine ev_pos rfl (ev_pos (by omega) ?_)
      rw [e]
      have := run (bs s.toList.tail) true (by rw [bs_size, List.length_tail, len_toList]; omega)
      rw [bs_toList] at this
      exact this
    | false =>
      refine ev_neg (by simp) ?_
      exact run s false hs
  unfold spec_LikeParse.f
  by_cases h0 : s.toList = []
  · refine ev_pos h0 (go false ?_ (fun h => absurd h (by decide)))
    rw [h0]
    rfl
  · have hz : 0 < s.size := by rw [← len_toList]; exact List.length_pos_iff.2 h0
    refine ev_neg h0 (ev_pos (by omega) (go _ ?_ (fun _ => hz)))
    have hb := bt_nat s 0 hz
    have hd := drop_at s 0 hz
    rw [List.drop_zero] at hd
    unfold Slk.lead
    rw [hd, show bt s 0 = ((s[0]'hz).toNat : Int) from hb]
    show (((s[0]'hz).toNat : Int) == 118) = (some (s[0]'hz) == some 118)
    by_cases h : s[0]'hz = 118
    · rw [h]
      rfl
    · rw [beq_eq_false_iff_ne.2 (fun e => h (Option.some.inj e))]
      exact beq_eq_false_iff_ne.2 (fun e => h (UInt8.toNat_inj.1 (show (s[0]'hz).toNat = (118 : UInt8).toNat from by show _ = 118; omega)))
end Go.Proofs.YtdliagehkiihpaaGreatDoor.QW
