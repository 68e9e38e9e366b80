/- 'short': of lists of texts.
   What the reference answers: digits.
   What the reference's small functions over lists of texts answer: fits, digits, known segments, numbers in digits.
   What the reference answers: numbers in digits compared.
   Identifiers compared by the reference.
   The order of versions by the page's grammar, as the reference tells it: what it answers of texts that are such versions.
   The order of versions by the page's grammar is the program's. -/
import Derived.Test.YtdliagehkiihpaaGreatDoorZD
import Derived.Test.YtdliagehkiihpaaGreatDoorQUx
import Derived.Test.YtdliagehkiihpaaGreatDoorZA
import Derived.Test.YtdliagehkiihpaaGreatDoorZW
import Derived.Test.YtdliagehkiihpaaGreatDoorZBL
namespace Go.Proofs.YtdliagehkiihpaaGreatDoor.QU
open Go.RowKit Go.Proofs.YtdliagehkiihpaaGreatDoorW.PrintWords Go.Proofs.YtdliagehkiihpaaGreatDoorW.PrintLast Go.Proofs.YtdliagehkiihpaaGreatDoor.Pk Go.Proofs.YtdliagehkiihpaaGreatDoor.Giv
set_option linter.unusedVariables false

/-- Are all texts short, and not many of them? -/
def shortB (l : List ByteArray) : Bool := l.all (fun s => decide (s.size ≤ 1500)) && decide (l.length ≤ 150)
theorem short_loop (l : List ByteArray) (hl : l.length < 4611686018427387904) (d : Nat) : ∀ i : Nat, i + d = l.length → Ev (fun k => laws_short.l0 k l l (l.length : Int) (i : Int)) ((l.drop i).all (fun s => decide (s.size ≤ 1500)) && decide (l.length ≤ 150)) := by
  induction d with
  | zero =>
    intro i hi
    refine Ev.step (fun k => by rw [laws_short.l0]) ?_
    refine ev_neg (by omega) ?_
    rw [List.drop_of_length_le (by omega)]
    have e : decide ((l.length : Int) ≤ 150) = ([].all (fun s : ByteArray => decide (s.size ≤ 1500)) && decide (l.length ≤ 150)) := by
      rw [List.all_nil, Bool.true_and, decide_eq_decide]
      omega
    rw [← e]
    exact Ev.now _
  | succ d ih =>
    intro i hi
    have hlt : i < l.length := by omega
    have r := rdOf_nat ByteArray.empty l i hlt
    have w := wr i (by omega)
    refine Ev.step (fun k => by rw [laws_short.l0, r, w]) ?_
    refine ev_pos (by omega) (ev_pos (by omega) (ev_pos (by omega) ?_))
    rw [List.drop_eq_getElem_cons hlt, List.all_cons]
    by_cases h : ((l[i].size : Int)) > 1500
    · refine ev_pos h ?_
      have e : decide (l[i].size ≤ 1500) = false := by rw [decide_eq_false_iff_not]; omega
      rw [e]
      exact Ev.now _
    · refine ev_neg h ?_
      have e : decide (l[i].size ≤ 1500) = true := by rw [decide_eq_true_eq]; omega
      rw [e, Bool.true_and]
      exact ih (i + 1) (by omega)
theorem short_ev (l : List ByteArray) (hl : l.length < 4611686018427387904) : Ev (fun k => laws_short.f k l) (shortB l) := short_loop l hl l.length 0 (by omega)
theorem short_sizes {l : List ByteArray} (h : shortB l = true) : ∀ s ∈ l, s.size ≤ 1500 := by
  unfold shortB at h
  rw [Bool.and_eq_true, List.all_eq_true] at h
  intro s hs
  simpa using h.1 s hs
end Go.Proofs.YtdliagehkiihpaaGreatDoor.QU

namespace Go.Proofs.YtdliagehkiihpaaGreatDoor.QU
open Go.RowKit Go.Proofs.YtdliagehkiihpaaGreatDoorW.PrintWords Go.Proofs.YtdliagehkiihpaaGreatDoorW.PrintLast Go.Proofs.YtdliagehkiihpaaGreatDoor.Pk Go.Proofs.YtdliagehkiihpaaGreatDoor.Giv Go.Proofs.YtdliagehkiihpaaGreatDoor.Ord
set_option linter.unusedVariables false

theorem isDigit_f (c : UInt8) : spec_isDigit.f (c.toNat : Int) = some (Rpm.dig c) := by
  unfold spec_isDigit.f Rpm.dig
  by_cases h : (c.toNat : Int) ≥ 48
  · rw [if_pos h]
    congr 1
    rw [decide_eq_decide]
    omega
  · rw [if_neg h]
    congr 1
    rw [eq_comm, decide_eq_false_iff_not]
    omega
theorem allDigits_loop (s : ByteArray) (hs : s.size < 4611686018427387904) (d : Nat) : ∀ i : Nat, i + d = s.size → Ev (fun k => spec_allDigits.l0 k s (i : Int)) ((s.toList.drop i).all Rpm.dig && decide (s.size > 0)) := by
  induction d with
  | zero =>
    intro i hi
    refine Ev.step (fun k => by rw [spec_allDigits.l0]) ?_
    refine ev_neg (by omega) ?_
    rw [List.drop_of_length_le (by rw [len_toList]; omega), List.all_nil, Bool.true_and]
    have e : decide ((s.size : Int) > 0) = decide (s.size > 0) := by rw [decide_eq_decide]; omega
    rw [← e]
    exact Ev.now _
  | succ d ih =>
    intro i hi
    have hlt : i < s.size := by omega
    have w := wr i (by omega)
    refine Ev.step (fun k => by rw [spec_allDigits.l0, bt_nat s i hlt, w, isDigit_f]) ?_
    refine ev_pos (by omega) (ev_pos (by omega) (ev_some ?_))
    rw [drop_at s i hlt, List.all_cons]
    cases hd : Rpm.dig (s[i]'hlt) with
    | true => exact ev_pos rfl (ih (i + 1) (by omega))
    | false => exact ev_neg (by simp) (Ev.now _)
theorem allDigits_ev (s : ByteArray) (hs : s.size < 4611686018427387904) : Ev (fun k => spec_allDigits.f k s) (Num.digits s.toList) := by
  unfold spec_allDigits.f
  have := allDigits_loop s hs s.size 0 (by omega)
  have e : ((s.toList.drop 0).all Rpm.dig && decide (s.size > 0)) = Num.digits s.toList := by
    unfold Num.digits
    rw [List.drop_zero, Bool.and_comm]
    congr 1
    rw [Bool.eq_iff_iff, ← len_toList]
    simp [List.length_pos_iff]
  rw [← e]
  exact this
end Go.Proofs.YtdliagehkiihpaaGreatDoor.QU

namespace Go.Proofs.YtdliagehkiihpaaGreatDoor.QU
open Go.RowKit Go.Proofs.YtdliagehkiihpaaGreatDoorW.PrintWords Go.Proofs.YtdliagehkiihpaaGreatDoorW.PrintLast Go.Proofs.YtdliagehkiihpaaGreatDoor.Pk Go.Proofs.YtdliagehkiihpaaGreatDoor.Giv Go.Proofs.YtdliagehkiihpaaGreatDoor.Ord
set_option linter.unusedVariables false

theorem tail_eq (s : ByteArray) (h : 0 < s.size) : s.toList = s[0]'h :: (s.extract 1 s.size).toList := by
  rw [ext_all]
  have := drop_at s 0 h
  simpa using this
/-- No sign ahead of digits in any. -/
def idK (l : List ByteArray) : Bool := l.all (fun s => !Seg.signed s.toList)
theorem idKnown_loop (l : List ByteArray) (hl : l.length < 4611686018427387904) (hs : ∀ s ∈ l, s.size < 4611686018427387904) (d : Nat) : ∀ i : Nat, i + d = l.length → Ev (fun k => spec_IdentifiersKnown.l0 k l (i : Int)) (idK (l.drop i)) := by
  induction d with
  | zero =>
    intro i hi
    refine Ev.step (fun k => by rw [spec_IdentifiersKnown.l0]) ?_
    refine ev_neg (by omega) ?_
    rw [List.drop_of_length_le (by omega)]
    exact Ev.now _
  | succ d ih =>
    intro i hi
    have hlt : i < l.length := by omega
    have w := wr i (by omega)
    have r := rdOf_nat ByteArray.empty l i hlt
    have hz := hs _ (List.getElem_mem hlt)
    have nx := ih (i + 1) (by omega)
    rw [List.drop_eq_getElem_cons hlt]
    unfold idK at nx ⊢
    rw [List.all_cons]
    generalize l[i]'hlt = s at *
    refine Ev.step (fun k => by rw [spec_IdentifiersKnown.l0, w, r]) ?_
    refine ev_pos (by omega) (ev_pos (by omega) ?_)
    by_cases h1 : (s.size : Int) > 1
    · have h0 : 0 < s.size := by omega
      have et := tail_eq s h0
      have b0 : bt s 0 = ((s[0]'h0).toNat : Int) := bt_nat s 0 h0
      have ad := allDigits_ev (s.extract 1 s.size) (by rw [ByteArray.size_extract]; omega)
      refine ev_pos h1 (ev_pos (by omega) ?_)
      rw [b0]
      have sg : Seg.signed s.toList = ((decide ((s[0]'h0).toNat = 45) || decide ((s[0]'h0).toNat = 43)) && Num.digits (s.extract 1 s.size).toList) := by
        conv => lhs; rw [et]
        rfl
      rw [sg]
      by_cases c1 : ((s[0]'h0).toNat : Int) = 45
      · refine ev_pos c1 (ev_pos (by omega) (ad.bind ?_))
        rw [decide_eq_true (by omega), Bool.true_or, Bool.true_and]
        cases Num.digits (s.extract 1 s.size).toList with
        | true => exact ev_pos rfl (Ev.now _)
        | false => exact ev_neg (by simp) nx
      · refine ev_neg c1 ?_
        by_cases c2 : ((s[0]'h0).toNat : Int) = 43
        · refine ev_pos c2 (ev_pos (by omega) (ad.bind ?_))
          rw [decide_eq_false (by omega), decide_eq_true (by omega), Bool.false_or, Bool.true_and]
          cases Num.digits (s.extract 1 s.size).toList with
          | true => exact ev_pos rfl (Ev.now _)
          | false => exact ev_neg (by simp) nx
        · refine ev_neg c2 ?_
          rw [decide_eq_false (by omega), decide_eq_false (by omega)]
          exact nx
    · refine ev_neg h1 ?_
      have sg : Seg.signed s.toList = false := by
        have hl : s.toList.length ≤ 1 := by rw [len_toList]; omega
        unfold Seg.signed
        cases hc : s.toList with
        | nil => rfl
        | cons c r =>
          have : r = [] := by rw [hc] at hl; simp at hl; exact hl
          subst this
          simp [Num.digits]
      rw [sg]
      exact nx
theorem idKnown_ev (l : List ByteArray) (hl : l.length < 4611686018427387904) (hs : ∀ s ∈ l, s.size < 4611686018427387904) : Ev (fun k => spec_IdentifiersKnown.f k l) (idK l) := by
  have := idKnown_loop l hl hs l.length 0 (by omega)
  exact this
theorem idK_tl {l : List ByteArray} (h : idK l = true) : ∀ x ∈ tl l, Seg.signed x = false := by
  intro x hx
  obtain ⟨s, hs, rfl⟩ := List.mem_map.1 hx
  unfold idK at h
  rw [List.all_eq_true] at h
  simpa using h s hs
end Go.Proofs.YtdliagehkiihpaaGreatDoor.QU

namespace Go.Proofs.YtdliagehkiihpaaGreatDoor.QU
open Go.RowKit Go.Proofs.YtdliagehkiihpaaGreatDoorW.PrintWords Go.Proofs.YtdliagehkiihpaaGreatDoorW.PrintLast Go.Proofs.YtdliagehkiihpaaGreatDoor.Pk Go.Proofs.YtdliagehkiihpaaGreatDoor.Giv Go.Proofs.YtdliagehkiihpaaGreatDoor.Ord
set_option linter.unusedVariables false

theorem on_l1 (n : Nat) (a : ByteArray) (sa : List UInt8) (ha : Rpm.strip0 a.toList = a.toList) : ∀ b : ByteArray, b.size ≤ n → b.size < 4611686018427387904 → Ev (fun k => spec_orderNumbers.l1 k a b) (if cI a.size (Rpm.strip0 b.toList).length = 0 then cS a.toList (Rpm.strip0 b.toList) else cI a.size (Rpm.strip0 b.toList).length) := by
  have fin : ∀ b : ByteArray, Rpm.strip0 b.toList = b.toList → Ev (fun k => spec_orderNumbers.j3 k a b) (if cI a.size (Rpm.strip0 b.toList).length = 0 then cS a.toList (Rpm.strip0 b.toList) else cI a.size (Rpm.strip0 b.toList).length) := by
    intro b hb
    rw [hb, len_toList]
    refine Ev.step (fun k => by rw [spec_orderNumbers.j3]) ?_
    by_cases h : (a.size : Int) = (b.size : Int)
    · rw [if_pos (cI_zero.2 h)]
      exact ev_pos h (ev_some (Ev.now _))
    · rw [if_neg (fun e => h (cI_zero.1 e))]
      refine ev_neg h ?_
      unfold spec_orderInts.f cI
      by_cases h1 : (a.size : Int) < (b.size : Int)
      · rw [if_pos h1, if_pos h1]
        exact ev_some (Ev.now _)
      · rw [if_neg h1, if_pos (by omega), if_neg h1, if_pos (by omega)]
        exact ev_some (Ev.now _)
  induction n with
  | zero =>
    intro b hb _
    refine Ev.step (fun k => by rw [spec_orderNumbers.l1]) ?_
    refine ev_neg (by omega) (fin b ?_)
    have : b.toList = [] := List.length_eq_zero_iff.1 (by rw [len_toList]; omega)
    rw [this]
    rfl
  | succ n ih =>
    intro b hb hz
    refine Ev.step (fun k => by rw [spec_orderNumbers.l1]) ?_
    by_cases h : (b.size : Int) > 0
    · have h0 : 0 < b.size := by omega
      have et := tail_eq b h0
      refine ev_pos h (ev_pos (by omega) ?_)
      rw [bt_nat b 0 h0 |> (fun e => (e : bt b 0 = _))]
      by_cases c : ((b[0]'h0).toNat : Int) = 48
      · refine ev_pos c (ev_pos (by omega) ?_)
        have z := ih (b.extract 1 b.size) (by rw [ByteArray.size_extract]; omega) (by rw [ByteArray.size_extract]; omega)
        have e : Rpm.strip0 b.toList = Rpm.strip0 (b.extract 1 b.size).toList := by
          conv => lhs; rw [et]
          unfold Rpm.strip0
          rw [List.dropWhile_cons_of_pos (by simp; omega)]
        rw [e]
        exact z
      · refine ev_neg c (fin b ?_)
        conv => lhs; rw [et]
        unfold Rpm.strip0
        rw [List.dropWhile_cons_of_neg (by simp; omega)]
        exact et.symm
    · refine ev_neg h (fin b ?_)
      have : b.toList = [] := List.length_eq_zero_iff.1 (by rw [len_toList]; omega)
      rw [this]
      rfl
theorem on_l0 (n : Nat) (b : ByteArray) (hb : b.size < 4611686018427387904) : ∀ a : ByteArray, a.size ≤ n → a.size < 4611686018427387904 → Ev (fun k => spec_orderNumbers.l0 k a b) (Rpm.numC a.toList b.toList) := by
  have fin : ∀ a : ByteArray, Rpm.strip0 a.toList = a.toList → Ev (fun k => spec_orderNumbers.j1 k a b) (Rpm.numC a.toList b.toList) := by
    intro a ha
    refine Ev.step (fun k => by rw [spec_orderNumbers.j1]) ?_
    have := on_l1 b.size a [] ha b (Nat.le_refl _) hb
    unfold Rpm.numC
    rw [ha, len_toList]
    exact this
  induction n with
  | zero =>
    intro a ha _
    refine Ev.step (fun k => by rw [spec_orderNumbers.l0]) ?_
    refine ev_neg (by omega) (fin a ?_)
    have : a.toList = [] := List.length_eq_zero_iff.1 (by rw [len_toList]; omega)
    rw [this]
    rfl
  | succ n ih =>
    intro a ha hz
    refine Ev.step (fun k => by rw [spec_orderNumbers.l0]) ?_
    by_cases h : (a.size : Int) > 0
    · have h0 : 0 < a.size := by omega
      have et := tail_eq a h0
      refine ev_pos h (ev_pos (by omega) ?_)
      rw [bt_nat a 0 h0 |> (fun e => (e : bt a 0 = _))]
      by_cases c : ((a[0]'h0).toNat : Int) = 48
      · refine ev_pos c (ev_pos (by omega) ?_)
        have z := ih (a.extract 1 a.size) (by rw [ByteArray.size_extract]; omega) (by rw [ByteArray.size_extract]; omega)
        have e : Rpm.strip0 a.toList = Rpm.strip0 (a.extract 1 a.size).toList := by
          conv => lhs; rw [et]
          unfold Rpm.strip0
          rw [List.dropWhile_cons_of_pos (by simp; omega)]
        unfold Rpm.numC at z ⊢
        rw [e]
        exact z
      · refine ev_neg c (fin a ?_)
        conv => lhs; rw [et]
        unfold Rpm.strip0
        rw [List.dropWhile_cons_of_neg (by simp; omega)]
        exact et.symm
    · refine ev_neg h (fin a ?_)
      have : a.toList = [] := List.length_eq_zero_iff.1 (by rw [len_toList]; omega)
      rw [this]
      rfl
theorem orderNumbers_ev (a b : ByteArray) (ha : a.size < 4611686018427387904) (hb : b.size < 4611686018427387904) : Ev (fun k => spec_orderNumbers.f k a b) (Rpm.numC a.toList b.toList) := on_l0 a.size b hb a (Nat.le_refl _) ha
end Go.Proofs.YtdliagehkiihpaaGreatDoor.QU

namespace Go.Proofs.YtdliagehkiihpaaGreatDoor.QU
open Go.RowKit Go.Proofs.YtdliagehkiihpaaGreatDoorW.PrintWords Go.Proofs.YtdliagehkiihpaaGreatDoorW.PrintLast Go.Proofs.YtdliagehkiihpaaGreatDoor.Pk Go.Proofs.YtdliagehkiihpaaGreatDoor.Giv Go.Proofs.YtdliagehkiihpaaGreatDoor.Ord
set_option linter.unusedVariables false

theorem ordI_f (a b : Int) : spec_orderInts.f a b = some (cI a b) := by
  unfold spec_orderInts.f cI
  by_cases h : a < b
  · rw [if_pos h, if_pos h]
  · rw [if_neg h, if_neg h]
    by_cases h2 : b < a
    · rw [if_pos h2, if_pos h2]
    · rw [if_neg h2, if_neg h2]
theorem pageOne_ev (a b : ByteArray) (ha : a.size < 4611686018427387904) (hb : b.size < 4611686018427387904) : Ev (fun k => spec_pageOne.f k a b) (Seg.idS a.toList b.toList) := by
  have on := orderNumbers_ev a b ha hb
  unfold spec_pageOne.f
  refine (allDigits_ev a ha).bind ((allDigits_ev b hb).bind ?_)
  have tail : ∀ dx dy : Bool, Num.digits a.toList = dx → Num.digits b.toList = dy → Ev (fun k => spec_pageOne.j0 k a b dx dy (dx && dy)) (Seg.idS a.toList b.toList) := by
    intro dx dy e1 e2
    refine Ev.step (fun k => by rw [spec_pageOne.j0]) ?_
    unfold Seg.idS
    rw [e1, e2]
    cases dx with
    | true =>
      cases dy with
      | true => exact ev_pos rfl (on.bind (Ev.now _))
      | false => exact ev_neg (by simp) (ev_pos rfl (Ev.now _))
    | false =>
      cases dy with
      | true => exact ev_neg (by simp) (ev_neg (by simp) (ev_pos rfl (Ev.now _)))
      | false =>
        refine ev_neg (by simp) (ev_neg (by simp) (ev_neg (by simp) ?_))
        unfold Giv.spec_order.f
        exact ev_some (Ev.now _)
  cases hd : Num.digits a.toList with
  | true =>
    refine ev_pos rfl ?_
    have := tail true (Num.digits b.toList) hd rfl
    rw [Bool.true_and] at this
    exact this
  | false =>
    refine ev_neg (by simp) ?_
    have := tail false (Num.digits b.toList) hd rfl
    rw [Bool.false_and] at this
    exact this
theorem specIds_same (a b : List ByteArray) (ha : idK a = true) (hb : idK b = true) : lexL Seg.idS (tl a) (tl b) = lexL Seg.idC (tl a) (tl b) :=
  Seg.lexL_congr (p := fun x => Seg.signed x = false) (fun x y hx hy => Seg.idS_eq hx hy) _ _ (idK_tl ha) (idK_tl hb)
end Go.Proofs.YtdliagehkiihpaaGreatDoor.QU

namespace Go.Proofs.YtdliagehkiihpaaGreatDoor.QU
open Go.RowKit Go.Proofs.YtdliagehkiihpaaGreatDoorW.PrintWords Go.Proofs.YtdliagehkiihpaaGreatDoorW.PrintLast Go.Proofs.YtdliagehkiihpaaGreatDoor.Pk Go.Proofs.YtdliagehkiihpaaGreatDoor.Giv Go.Proofs.YtdliagehkiihpaaGreatDoor.Ord
set_option linter.unusedVariables false
/-- It answers, and where it answers yes this holds. -/
def Says (f : Nat → Option Bool) (P : Prop) : Prop := ∃ b, Ev f b ∧ (b = true → P)
theorem Says.no {f : Nat → Option Bool} {P : Prop} (h : Ev f false) : Says f P := ⟨false, h, fun e => absurd e (by decide)⟩
theorem Says.imp {f : Nat → Option Bool} {P Q : Prop} (h : Says f P) (i : P → Q) : Says f Q := by
  obtain ⟨b, h1, h2⟩ := h
  exact ⟨b, h1, fun e => i (h2 e)⟩
theorem Says.pos {c : Prop} [Decidable c] {f g : Nat → Option Bool} {P : Prop} (h : c) (e : Says f P) : Says (fun k => if c then f k else g k) P := by
  obtain ⟨b, h1, h2⟩ := e
  exact ⟨b, ev_pos h h1, h2⟩
theorem Says.neg {c : Prop} [Decidable c] {f g : Nat → Option Bool} {P : Prop} (h : ¬ c) (e : Says g P) : Says (fun k => if c then f k else g k) P := by
  obtain ⟨b, h1, h2⟩ := e
  exact ⟨b, ev_neg h h1, h2⟩
theorem Says.bind {α : Type} {g : Nat → Option α} {a : α} {f : Nat → α → Option Bool} {P : Prop} (h : Ev g a) (e : Says (fun k => f k a) P) : Says (fun k => (g k).bind (f k)) P := by
  obtain ⟨b, h1, h2⟩ := e
  exact ⟨b, h.bind h1, h2⟩
theorem Says.step {f g : Nat → Option Bool} {P : Prop} (h : ∀ k, f (k + 1) = g k) (e : Says g P) : Says f P := by
  obtain ⟨b, h1, h2⟩ := e
  exact ⟨b, Ev.step h h1, h2⟩
theorem isLetter_f (c : UInt8) : ∃ b, spec_isLetter.f (c.toNat : Int) = some b ∧ (b = true → c.toNat < 128) := by
  unfold spec_isLetter.f
  by_cases h1 : (c.toNat : Int) ≥ 97
  · rw [if_pos h1]
    by_cases h2 : (c.toNat : Int) ≤ 122
    · rw [if_pos h2]
      exact ⟨true, rfl, fun _ => by omega⟩
    · rw [if_neg h2]
      by_cases h3 : (c.toNat : Int) ≥ 65
      · rw [if_pos h3]
        exact ⟨_, rfl, fun e => by have := of_decide_eq_true e; omega⟩
      · rw [if_neg h3]
        exact ⟨false, rfl, fun e => absurd e (by decide)⟩
  · rw [if_neg h1]
    by_cases h3 : (c.toNat : Int) ≥ 65
    · rw [if_pos h3]
      exact ⟨_, rfl, fun e => by have := of_decide_eq_true e; omega⟩
    · rw [if_neg h3]
      exact ⟨false, rfl, fun e => absurd e (by decide)⟩
/-- Identifiers by the page: none empty, of bytes below 128. -/
def Words (l : List ByteArray) : Prop := ∀ w ∈ l, w.toList ≠ [] ∧ ∀ c ∈ w.toList, c.toNat < 128
theorem pw_l1 (l : List ByteArray) (st : Bool) (i : Nat) (w : ByteArray) (hw : w.size < 1000000) (hi : i < 1000000) (P : Prop) (nx : Says (fun k => spec_pageWords.l0 k l st ((i + 1 : Nat) : Int)) P) (d : Nat) : ∀ j : Nat, j + d = w.size → Says (fun k => spec_pageWords.l1 k l st (i : Int) w (j : Int)) ((w.toList ≠ [] ∧ ∀ c ∈ w.toList.drop j, c.toNat < 128) ∧ P) := by
  have wi := wr i (by omega)
  induction d with
  | zero =>
    intro j hj
    refine Says.step (fun k => by rw [spec_pageWords.l1, wi]) ?_
    refine Says.neg (by omega) ?_
    by_cases h0 : w.toList = []
    · exact Says.pos h0 (Says.no (Ev.now _))
    · have hz : 0 < w.size := by rw [← len_toList]; exact List.length_pos_iff.2 h0
      have fin : Says (fun k => spec_pageWords.l0 k l st ((i + 1 : Nat) : Int)) ((w.toList ≠ [] ∧ ∀ c ∈ w.toList.drop j, c.toNat < 128) ∧ P) :=
        nx.imp (fun p => ⟨⟨h0, fun c hc => by rw [List.drop_of_length_le (by rw [len_toList]; omega)] at hc; exact absurd hc List.not_mem_nil⟩, p⟩)
      refine Says.neg h0 ?_
      cases st with
      | false => exact Says.neg (by simp) fin
      | true =>
        refine Says.pos rfl ?_
        by_cases h1 : (w.size : Int) > 1
        · refine Says.pos h1 (Says.pos (by omega) ?_)
          by_cases h2 : bt w 0 = 48
          · refine Says.pos h2 (Says.bind (allDigits_ev w (by omega)) ?_)
            by_cases h3 : Num.digits w.toList = true
            · exact Says.pos h3 (Says.no (Ev.now _))
            · exact Says.neg h3 fin
          · exact Says.neg h2 fin
        · exact Says.neg h1 fin
  | succ d ih =>
    intro j hj
    have hlt : j < w.size := by omega
    have wj := wr j (by omega)
    have nxt := ih (j + 1) (by omega)
    obtain ⟨b, hb, hb'⟩ := isLetter_f (w[j]'hlt)
    refine Says.step (fun k => by rw [spec_pageWords.l1, bt_nat w j hlt, wj, isDigit_f, hb]) ?_
    refine Says.pos (by omega) (Says.pos (by omega) (Says.bind (Ev.now _) ?_))
    have add : (w[j]'hlt).toNat < 128 → Says (fun k => spec_pageWords.l1 k l st (i : Int) w ((j + 1 : Nat) : Int)) ((w.toList ≠ [] ∧ ∀ c ∈ w.toList.drop j, c.toNat < 128) ∧ P) := fun hc => nxt.imp (fun p => ⟨⟨p.1.1, fun c h => by
      rw [drop_at w j hlt] at h
      rcases List.mem_cons.1 h with e | h
      · rw [e]; exact hc
      · exact p.1.2 c h⟩, p.2⟩)
    cases hd : Rpm.dig (w[j]'hlt) with
    | true => exact Says.pos rfl (add (by have : 48 ≤ (w[j]'hlt).toNat ∧ (w[j]'hlt).toNat ≤ 57 := of_decide_eq_true hd; omega))
    | false =>
      refine Says.neg (by simp) (Says.bind (Ev.now _) ?_)
      cases b with
      | true => exact Says.pos rfl (add (hb' rfl))
      | false =>
        refine Says.neg (by simp) ?_
        by_cases h45 : ((w[j]'hlt).toNat : Int) = 45
        · exact Says.pos h45 (add (by omega))
        · exact Says.neg h45 (Says.no (Ev.now _))
theorem pw_l0 (l : List ByteArray) (st : Bool) (hl : l.length < 1000000) (hw : ∀ w ∈ l, w.size < 1000000) (d : Nat) : ∀ i : Nat, i + d = l.length → Says (fun k => spec_pageWords.l0 k l st (i : Int)) (Words (l.drop i) ∧ (st = true → idK l = true)) := by
  induction d with
  | zero =>
    intro i hi
    refine Says.step (fun k => by rw [spec_pageWords.l0]) ?_
    refine Says.neg (by omega) ?_
    rw [List.drop_of_length_le (by omega)]
    have e : Words [] := fun w h => absurd h List.not_mem_nil
    cases st with
    | false => exact Says.neg (by simp) ⟨true, Ev.now _, fun _ => ⟨e, fun h => absurd h (by decide)⟩⟩
    | true =>
      refine Says.pos rfl (Says.bind (idKnown_ev l (by omega) (fun s h => by have := hw s h; omega)) ?_)
      exact ⟨_, Ev.now _, fun h => ⟨e, fun _ => h⟩⟩
  | succ d ih =>
    intro i hi
    have hlt : i < l.length := by omega
    refine Says.step (fun k => by rw [spec_pageWords.l0, rdOf_nat _ _ i hlt]) ?_
    refine Says.pos (by omega) (Says.pos (by omega) ?_)
    refine (pw_l1 l st i (l[i]'hlt) (hw _ (List.getElem_mem hlt)) (by omega) _ (ih (i + 1) (by omega)) _ 0 (Nat.zero_add _)).imp (fun p => ⟨fun w h => ?_, p.2.2⟩)
    rw [List.drop_eq_getElem_cons hlt] at h
    rcases List.mem_cons.1 h with e | h
    · rw [e]
      have := p.1
      rw [List.drop_zero] at this
      exact this
    · exact p.2.1 w h
theorem pageWords_ev (l : List ByteArray) (st : Bool) (hl : l.length < 1000000) (hw : ∀ w ∈ l, w.size < 1000000) : Says (fun k => spec_pageWords.f k l st) (Words l ∧ (st = true → idK l = true)) := by
  have := pw_l0 l st hl hw l.length 0 (by omega)
  rw [List.drop_zero] at this
  exact this
theorem index_loop (s : ByteArray) (c : UInt8) (hs : s.size < 1000000) (d : Nat) : ∀ i : Nat, i + d = s.size → ((s.toList.take i).any (fun x => x == c)) = false → Ev (fun k => spec_indexOf.l0 k s (c.toNat : Int) (i : Int)) (placeOf (fun x => x == c) s.toList) := by
  induction d with
  | zero =>
    intro i hi hno
    refine Ev.step (fun k => by rw [spec_indexOf.l0]) ?_
    refine ev_neg (by omega) ?_
    rw [List.take_of_length_le (by rw [len_toList]; omega)] at hno
    have e : placeOf (fun x => x == c) s.toList = -1 := by
      unfold placeOf
      rw [hno]
      rfl
    rw [e]
    exact Ev.now _
  | succ d ih =>
    intro i hi hno
    have hlt : i < s.size := by omega
    have w := wr i (by omega)
    refine Ev.step (fun k => by rw [spec_indexOf.l0, bt_nat s i hlt, w]) ?_
    refine ev_pos (by omega) (ev_pos (by omega) ?_)
    have hg : s.toList[i]'(by rw [len_toList]; exact hlt) = s[i]'hlt := by
      simp only [toList_eq']
      rfl
    by_cases h : s[i]'hlt = c
    · refine ev_pos (by rw [h]) ?_
      rw [placeOf_step _ s.toList i (by rw [len_toList]; exact hlt) hno (by rw [hg, h]; simp)]
      exact Ev.now _
    · refine ev_neg (fun e => h (UInt8.toNat_inj.1 (by omega))) ?_
      refine ih (i + 1) (by omega) ?_
      rw [List.take_succ_eq_append_getElem (by rw [len_toList]; exact hlt), List.any_append, hno, hg]
      simpa using h
theorem index_ev (s : ByteArray) (c : UInt8) (hs : s.size < 1000000) : Ev (fun k => spec_indexOf.f k s (c.toNat : Int)) (placeOf (fun x => x == c) s.toList) := index_loop s c hs s.size 0 (by omega) (by simp)
theorem place_no (c : UInt8) (l : List UInt8) (h : (l.any (fun x => x == c)) = false) : placeOf (fun x => x == c) l = -1 := by
  unfold placeOf
  rw [h]
  rfl
theorem place_yes (c : UInt8) (l : List UInt8) (h : (l.any (fun x => x == c)) = true) : placeOf (fun x => x == c) l = ((Cut.upTo c l).length : Int) := by
  unfold placeOf
  rw [if_pos h]
  congr 1
  induction l with
  | nil => simp at h
  | cons x r ih =>
    unfold Cut.upTo
    rw [List.findIdx_cons]
    by_cases hx : x = c
    · rw [List.takeWhile_cons_of_neg (by simp [hx])]
      simp [hx]
    · rw [List.takeWhile_cons_of_pos (by simp [hx])]
      rw [List.any_cons] at h
      have hr : (r.any fun x => x == c) = true := by simpa [hx] using h
      have := ih hr
      unfold Cut.upTo at this
      have e : (x == c) = false := by simp [hx]
      rw [e]
      simp only [cond_false, List.length_cons]
      rw [this]
/-- A version by the page's grammar. -/
structure Page (s : ByteArray) (nums pre : List ByteArray) (md : ByteArray) : Prop where
  en : nums = (Cut.cutAt 46 (Slk.core3 s.toList)).map bs
  len : nums.length = 3
  dg : ∀ x ∈ nums, Num.digits x.toList = true
  ep : pre = if Slk.hyp s.toList = true then (Cut.cutAt 46 (Slk.pre3 s.toList)).map bs else []
  wd : Words pre
  known : idK pre = true
  em : md.toList = Slk.behind43 s.toList
  am : ∀ c ∈ md.toList, c.toNat < 128
/-- It answers; where it says ok: a version by the page's grammar. -/
def Cores (f : Nat → Option (List ByteArray × List ByteArray × ByteArray × Bool)) (P : List ByteArray → List ByteArray → ByteArray → Prop) : Prop := ∃ r, Ev f r ∧ (r.2.2.2 = true → P r.1 r.2.1 r.2.2.1)
theorem cores_no {f : Nat → Option (List ByteArray × List ByteArray × ByteArray × Bool)} {P : List ByteArray → List ByteArray → ByteArray → Prop} {a b : List ByteArray} {c : ByteArray} (h : Ev f (a, b, c, false)) : Cores f P := ⟨_, h, fun e => (Bool.false_ne_true e).elim⟩
theorem core_l0 (nums pre : List ByteArray) (md : ByteArray) (hl : nums.length < 1000000) (hs : ∀ x ∈ nums, x.size < 1000000) (d : Nat) : ∀ i : Nat, i + d = nums.length → Cores (fun k => spec_CoreOf.l0 k nums pre md (i : Int)) (fun a b c => a = nums ∧ b = pre ∧ c = md ∧ ∀ x ∈ nums.drop i, Num.digits x.toList = true) := by
  induction d with
  | zero =>
    intro i hi
    refine ⟨(nums, pre, md, true), ?_, fun _ => ⟨rfl, rfl, rfl, fun x h => ?_⟩⟩
    · refine Ev.step (fun k => by rw [spec_CoreOf.l0]) ?_
      exact ev_neg (by omega) (Ev.now _)
    · rw [List.drop_of_length_le (by omega)] at h
      exact absurd h List.not_mem_nil
  | succ d ih =>
    intro i hi
    have hlt : i < nums.length := by omega
    have w := wr i (by omega)
    obtain ⟨r, h1, h2⟩ := ih (i + 1) (by omega)
    have ad := allDigits_ev (nums[i]'hlt) (by have := hs _ (List.getElem_mem hlt); omega)
    cases hd : Num.digits (nums[i]'hlt).toList with
    | true =>
      rw [hd] at ad
      refine ⟨r, ?_, fun e => ?_⟩
      · refine Ev.step (fun k => by rw [spec_CoreOf.l0, rdOf_nat _ _ i hlt, w]) ?_
        exact ev_pos (by omega) (ev_pos (by omega) (ad.bind (ev_pos rfl h1)))
      · obtain ⟨e1, e2, e3, e4⟩ := h2 e
        refine ⟨e1, e2, e3, fun x h => ?_⟩
        rw [List.drop_eq_getElem_cons hlt] at h
        rcases List.mem_cons.1 h with e | h
        · rw [e]; exact hd
        · exact e4 x h
    | false =>
      rw [hd] at ad
      refine cores_no (a := []) (b := []) (c := ⟨#[]⟩) ?_
      refine Ev.step (fun k => by rw [spec_CoreOf.l0, rdOf_nat _ _ i hlt, w]) ?_
      exact ev_pos (by omega) (ev_pos (by omega) (ad.bind (ev_neg (by simp) (Ev.now _))))
theorem cut_small (s : ByteArray) (hs : s.size ≤ 1500) : Giv.spec_cut_isPoint.f s = some ((Cut.cutAt 46 s.toList).map bs) ∧ ((Cut.cutAt 46 s.toList).map bs).length ≤ 1501 ∧ ∀ x ∈ (Cut.cutAt 46 s.toList).map bs, x.size ≤ 1500 := by
  obtain ⟨h1, h2⟩ := Cut.cutAt_sizes 46 s.toList
  rw [len_toList] at h1 h2
  refine ⟨?_, by rw [List.length_map]; omega, fun x h => ?_⟩
  · unfold Giv.spec_cut_isPoint.f
    rw [if_pos (by omega)]
  · obtain ⟨y, hy, rfl⟩ := List.mem_map.1 h
    rw [bs_size]
    have := h2 y hy
    omega
theorem core_j1 (pre : List ByteArray) (md co : ByteArray) (hc : co.size ≤ 1500) (hl : pre.length < 1000000) (hw : ∀ w ∈ pre, w.size < 1000000) : Cores (fun k => spec_CoreOf.j1 k 3 3 pre md co) (fun a b c => a = (Cut.cutAt 46 co.toList).map bs ∧ a.length = 3 ∧ (∀ x ∈ a, Num.digits x.toList = true) ∧ b = pre ∧ Words pre ∧ idK pre = true ∧ c = md) := by
  obtain ⟨e, l1, l2⟩ := cut_small co hc
  generalize (Cut.cutAt 46 co.toList).map bs = nums at *
  have bad : Cores (fun k => spec_CoreOf.j2 k nums pre md true) (fun a b c => a = nums ∧ a.length = 3 ∧ (∀ x ∈ a, Num.digits x.toList = true) ∧ b = pre ∧ Words pre ∧ idK pre = true ∧ c = md) := by
    refine cores_no (a := []) (b := []) (c := ⟨#[]⟩) ?_
    refine Ev.step (fun k => by rw [spec_CoreOf.j2]) ?_
    exact ev_pos rfl (Ev.now _)
  by_cases h1 : (nums.length : Int) < 3
  · obtain ⟨r, b1, b2⟩ := bad
    refine ⟨r, ?_, b2⟩
    refine Ev.step (fun k => by rw [spec_CoreOf.j1, e]) ?_
    exact ev_some (ev_pos h1 b1)
  · by_cases h2 : (nums.length : Int) > 3
    · obtain ⟨r, b1, b2⟩ := bad
      refine ⟨r, ?_, b2⟩
      refine Ev.step (fun k => by rw [spec_CoreOf.j1, e]) ?_
      exact ev_some (ev_neg h1 (ev_pos h2 b1))
    · obtain ⟨b, p1, p2⟩ := pageWords_ev pre true hl hw
      cases b with
      | false =>
        obtain ⟨r, b1, b2⟩ := bad
        refine ⟨r, ?_, b2⟩
        refine Ev.step (fun k => by rw [spec_CoreOf.j1, e]) ?_
        exact ev_some (ev_neg h1 (ev_neg h2 (p1.bind b1)))
      | true =>
        obtain ⟨w1, w2⟩ := p2 rfl
        obtain ⟨r, b1, b2⟩ := core_l0 nums pre md (by omega) (fun x h => by have := l2 x h; omega) nums.length 0 (by omega)
        refine ⟨r, ?_, fun h => ?_⟩
        · refine Ev.step (fun k => by rw [spec_CoreOf.j1, e]) ?_
          refine ev_some (ev_neg h1 (ev_neg h2 (p1.bind ?_)))
          refine Ev.step (fun k => by rw [spec_CoreOf.j2]) ?_
          exact ev_neg (by simp) b1
        · obtain ⟨e1, e2, e3, e4⟩ := b2 h
          rw [List.drop_zero] at e4
          refine ⟨e1, by rw [e1]; omega, by rw [e1]; exact e4, e2, w1, w2 rfl, e3⟩
theorem core_j0 (md bo : ByteArray) (hb : bo.size ≤ 1500) : Cores (fun k => spec_CoreOf.j0 k 3 3 [] md bo) (fun a b c => a = (Cut.cutAt 46 (Cut.upTo 45 bo.toList)).map bs ∧ a.length = 3 ∧ (∀ x ∈ a, Num.digits x.toList = true) ∧ b = (if bo.toList.any (fun x => x == 45) = true then (Cut.cutAt 46 (bo.toList.drop ((Cut.upTo 45 bo.toList).length + 1))).map bs else []) ∧ Words b ∧ idK b = true ∧ c = md) := by
  have ix : Ev (fun k => spec_indexOf.f k bo 45) (placeOf (fun x => x == 45) bo.toList) := index_ev bo 45 (by omega)
  cases h : bo.toList.any (fun x => x == 45) with
  | false =>
    rw [place_no 45 _ h] at ix
    obtain ⟨r, b1, b2⟩ := core_j1 [] md bo hb (by simp) (fun w h => absurd h List.not_mem_nil)
    refine ⟨r, ?_, fun e => ?_⟩
    · refine Ev.step (fun k => by rw [spec_CoreOf.j0]) ?_
      exact ix.bind (ev_neg (by omega) b1)
    · obtain ⟨e1, e2, e3, e4, e5, e6, e7⟩ := b2 e
      rw [(Cut.cutAt_no 45 _ h).2]
      exact ⟨e1, e2, e3, by rw [e4]; rfl, by rw [e4]; exact e5, by rw [e4]; exact e6, e7⟩
  | true =>
    rw [place_yes 45 _ h] at ix
    obtain ⟨_, h2, h3⟩ := Cut.cutAt_yes 45 bo.toList h
    rw [len_toList] at h2
    have w := wr (Cut.upTo 45 bo.toList).length (by omega)
    have x1 : bo.extract (((Cut.upTo 45 bo.toList).length + 1 : Nat) : Int).toNat bo.size = bs (bo.toList.drop ((Cut.upTo 45 bo.toList).length + 1)) := bs_eq (by rw [Int.toNat_natCast, ext_all])
    have x2 : bo.extract 0 ((Cut.upTo 45 bo.toList).length : Int).toNat = bs (Cut.upTo 45 bo.toList) := bs_eq (by rw [Int.toNat_natCast, ext_head]; exact h3)
    obtain ⟨c1, c2, c3⟩ := cut_small (bs (bo.toList.drop ((Cut.upTo 45 bo.toList).length + 1))) (by rw [bs_size, List.length_drop, len_toList]; omega)
    rw [bs_toList] at c1 c2 c3
    obtain ⟨r, b1, b2⟩ := core_j1 ((Cut.cutAt 46 (bo.toList.drop ((Cut.upTo 45 bo.toList).length + 1))).map bs) md (bs (Cut.upTo 45 bo.toList)) (by rw [bs_size]; omega) (by omega) (fun x h => by have := c3 x h; omega)
    refine ⟨r, ?_, fun e => ?_⟩
    · refine Ev.step (fun k => by rw [spec_CoreOf.j0]) ?_
      refine ix.bind ?_
      rw [w, x1, x2, c1]
      exact ev_pos (by omega) (ev_pos (by omega) (ev_pos (by omega) (ev_pos (by omega) (ev_pos (by omega) (ev_some b1)))))
    · obtain ⟨e1, e2, e3, e4, e5, e6, e7⟩ := b2 e
      rw [bs_toList] at e1
      exact ⟨e1, e2, e3, by rw [e4]; rfl, by rw [e4]; exact e5, by rw [e4]; exact e6, e7⟩
theorem core_ev (s : ByteArray) (hs : s.size ≤ 1500) : Cores (fun k => spec_CoreOf.f k s 3 3) (fun a b c => Page s a b c) := by
  have ix : Ev (fun k => spec_indexOf.f k s 43) (placeOf (fun x => x == 43) s.toList) := index_ev s 43 (by omega)
  unfold spec_CoreOf.f
  cases h : s.toList.any (fun x => x == 43) with
  | false =>
    rw [place_no 43 _ h] at ix
    obtain ⟨r, b1, b2⟩ := core_j0 ⟨#[]⟩ s hs
    refine ⟨r, ix.bind (ev_neg (by omega) b1), fun e => ?_⟩
    obtain ⟨e1, e2, e3, e4, e5, e6, e7⟩ := b2 e
    have up := (Cut.cutAt_no 43 _ h).2
    have em : r.2.2.1.toList = [] := by rw [e7, toList_eq']
    refine ⟨by unfold Slk.core3; rw [up]; exact e1, e2, e3, by unfold Slk.hyp Slk.pre3 Slk.core3; rw [up]; exact e4, e5, e6, ?_, by rw [em]; exact fun c hc => absurd hc List.not_mem_nil⟩
    rw [em]
    unfold Slk.behind43
    rw [h, if_neg (by decide)]
  | true =>
    rw [place_yes 43 _ h] at ix
    obtain ⟨_, h2, h3⟩ := Cut.cutAt_yes 43 s.toList h
    rw [len_toList] at h2
    have w := wr (Cut.upTo 43 s.toList).length (by omega)
    have x1 : s.extract (((Cut.upTo 43 s.toList).length + 1 : Nat) : Int).toNat s.size = bs (s.toList.drop ((Cut.upTo 43 s.toList).length + 1)) := bs_eq (by rw [Int.toNat_natCast, ext_all])
    have x2 : s.extract 0 ((Cut.upTo 43 s.toList).length : Int).toNat = bs (Cut.upTo 43 s.toList) := bs_eq (by rw [Int.toNat_natCast, ext_head]; exact h3)
    obtain ⟨c1, c2, c3⟩ := cut_small (bs (s.toList.drop ((Cut.upTo 43 s.toList).length + 1))) (by rw [bs_size, List.length_drop, len_toList]; omega)
    rw [bs_toList] at c1 c2 c3
    obtain ⟨b, p1, p2⟩ := pageWords_ev ((Cut.cutAt 46 (s.toList.drop ((Cut.upTo 43 s.toList).length + 1))).map bs) false (by omega) (fun x h => by have := c3 x h; omega)
    have run : ∀ r, Ev (fun k => if b = true then spec_CoreOf.j0 k 3 3 [] (bs (s.toList.drop ((Cut.upTo 43 s.toList).length + 1))) (bs (Cut.upTo 43 s.toList)) else some ([], [], ⟨#[]⟩, false)) r → Ev (fun k => (spec_indexOf.f k s 43).bind fun t111 => (if t111 ≥ 0 then (if 0 ≤ t111 then (if t111 ≤ (s.size : Int) then (if 0 ≤ (wrap64 (t111 + 1)) then (if (wrap64 (t111 + 1)) ≤ (s.size : Int) then ((Giv.spec_cut_isPoint.f (s.extract ((wrap64 (t111 + 1)) : Int).toNat s.size)).bind fun t112 => ((spec_pageWords.f k t112 false).bind fun t115 => (if t115 = true then (spec_CoreOf.j0 k 3 3 ([] : List ByteArray) (s.extract ((wrap64 (t111 + 1)) : Int).toNat s.size) (s.extract 0 (t111 : Int).toNat)) else (some (([] : List ByteArray), ([] : List ByteArray), (⟨#[]⟩ : ByteArray), false))))) else (none)) else (none)) else (none)) else (none)) else (spec_CoreOf.j0 k 3 3 ([] : List ByteArray) (⟨#[]⟩ : ByteArray) s))) r := fun r hr => by
      refine ix.bind ?_
      rw [w, x1, x2, c1]
      exact ev_pos (by omega) (ev_pos (by omega) (ev_pos (by omega) (ev_pos (by omega) (ev_pos (by omega) (ev_some (p1.bind hr))))))
    cases b with
    | false => exact cores_no (run _ (ev_neg (by simp) (Ev.now _)))
    | true =>
      obtain ⟨w1, _⟩ := p2 rfl
      obtain ⟨r, b1, b2⟩ := core_j0 (bs (s.toList.drop ((Cut.upTo 43 s.toList).length + 1))) (bs (Cut.upTo 43 s.toList)) (by rw [bs_size]; omega)
      refine ⟨r, run r (ev_pos rfl b1), fun e => ?_⟩
      obtain ⟨e1, e2, e3, e4, e5, e6, e7⟩ := b2 e
      rw [bs_toList] at e1 e4
      have em : r.2.2.1.toList = Slk.behind43 s.toList := by
        rw [e7, bs_toList]
        unfold Slk.behind43
        rw [if_pos h]
      refine ⟨e1, e2, e3, e4, e5, e6, em, fun c hc => ?_⟩
      rw [e7, bs_toList] at hc
      rcases Slk.mem_cut 46 _ c hc with e46 | ⟨p, hp, hx⟩
      · rw [e46]; decide
      · exact (w1 (bs p) (List.mem_map.2 ⟨p, hp, rfl⟩)).2 c (by rw [bs_toList]; exact hx)
end Go.Proofs.YtdliagehkiihpaaGreatDoor.QU

namespace Go.Proofs.YtdliagehkiihpaaGreatDoor.QU
open Go.RowKit Go.Proofs.YtdliagehkiihpaaGreatDoorW.PrintWords Go.Proofs.YtdliagehkiihpaaGreatDoorW.PrintLast Go.Proofs.YtdliagehkiihpaaGreatDoor.Pk Go.Proofs.YtdliagehkiihpaaGreatDoor.Giv Go.Proofs.YtdliagehkiihpaaGreatDoor.Ord
set_option linter.unusedVariables false
def nz (s : ByteArray) : List Int := (Cut.cutAt 46 (Slk.core3 s.toList)).map (fun q => (Num.dec q : Int))
def rs (s : ByteArray) : List UInt8 := s.toList.drop (Slk.core3 s.toList).length
theorem pad_lex {α : Type} (c : α → α → Int) (z : α) : ∀ (a b : List α), a.length = b.length → padN c z a.length a b = lexL c a b
  | [], [], _ => rfl
  | x :: a, y :: b, h => by
    have := pad_lex c z a b (by simpa using h)
    show (if c x y = 0 then padN c z a.length a b else c x y) = (if c x y = 0 then lexL c a b else c x y)
    rw [this]
  | [], _ :: _, h => absurd h (by simp)
  | _ :: _, [], h => absurd h (by simp)
theorem padL_lex {α : Type} (c : α → α → Int) (z : α) (a b : List α) (h : a.length = b.length) : padL c z a b = lexL c a b := by
  unfold padL
  rw [← h, Nat.max_self]
  exact pad_lex c z a b h
theorem tl_bs2 (l : List (List UInt8)) : tl (l.map bs) = l := by
  unfold tl
  rw [List.map_map]
  conv => rhs; rw [← List.map_id l]
  exact List.map_congr_left (fun x _ => bs_toList x)
theorem page_nums {s : ByteArray} {nums pre : List ByteArray} {md : ByteArray} (h : Page s nums pre md) : (∀ q ∈ Cut.cutAt 46 (Slk.core3 s.toList), Num.digits q = true) ∧ (nz s).length = 3 ∧ nums.length = 3 := by
  have hl := h.len
  refine ⟨fun q hq => ?_, ?_, hl⟩
  · have := h.dg (bs q) (by rw [h.en]; exact List.mem_map.2 ⟨q, hq, rfl⟩)
    rwa [bs_toList] at this
  · rw [h.en, List.length_map] at hl
    unfold nz
    rw [List.length_map]
    exact hl
theorem page_parse {s : ByteArray} {nums pre : List ByteArray} {md : ByteArray} (h : Page s nums pre md) : Slk.parse s.toList = (nz s, rs s) := Slk.parse_page s.toList (page_nums h).1
theorem page_asc {s : ByteArray} {nums pre : List ByteArray} {md : ByteArray} (h : Page s nums pre md) : ∀ c ∈ s.toList, c.toNat < 128 := by
  obtain ⟨t, u, e, _, _, ht, hu⟩ := Slk.page_parts s.toList
  intro c hc
  rw [e] at hc
  rcases List.mem_append.1 hc with hc | hc
  · rcases Slk.mem_cut 46 _ c hc with e46 | ⟨q, hq, hx⟩
    · rw [e46]; decide
    · have := (page_nums h).1 q hq
      unfold Num.digits at this
      rw [Bool.and_eq_true, List.all_eq_true] at this
      have : 48 ≤ c.toNat ∧ c.toNat ≤ 57 := of_decide_eq_true (this.2 c hx)
      omega
  · rcases List.mem_append.1 hc with hc | hc
    · rcases ht with ⟨ht, _⟩ | ⟨ht, hh⟩
      · rw [ht] at hc
        exact absurd hc List.not_mem_nil
      · rw [ht] at hc
        rcases List.mem_cons.1 hc with e45 | hc
        · rw [e45]; decide
        · rcases Slk.mem_cut 46 _ c hc with e46 | ⟨q, hq, hx⟩
          · rw [e46]; decide
          · have := (h.wd (bs q) (by rw [h.ep, if_pos hh]; exact List.mem_map.2 ⟨q, hq, rfl⟩)).2 c
            rw [bs_toList] at this
            exact this hx
    · rcases hu with ⟨hu, _⟩ | ⟨hu, _⟩
      · rw [hu] at hc
        exact absurd hc List.not_mem_nil
      · rw [hu] at hc
        rcases List.mem_cons.1 hc with e43 | hc
        · rw [e43]; decide
        · exact h.am c (by rw [h.em]; exact hc)
theorem page_ok {s : ByteArray} {nums pre : List ByteArray} {md : ByteArray} (h : Page s nums pre md) (hs : s.size ≤ 1500) : okT s = true :=
  okT_of (by omega) (page_asc h) (by rw [page_parse h]; exact Nat.le_of_eq (page_nums h).2.1)
/-- What stands behind the numbers: its identifiers. -/
theorem page_pre {s : ByteArray} {nums pre : List ByteArray} {md : ByteArray} (h : Page s nums pre md) : (pre = [] ∧ Cut.core (rs s) = []) ∨ (pre.length ≠ 0 ∧ Cut.core (rs s) ≠ [] ∧ tl pre = Cut.cutAt 46 (Cut.core (rs s))) := by
  have hc : Cut.core (rs s) = if Slk.hyp s.toList = true then Slk.pre3 s.toList else [] := Slk.page_core s.toList
  have hp := h.ep
  cases hh : Slk.hyp s.toList with
  | false =>
    rw [hh, if_neg (by decide)] at hc hp
    exact .inl ⟨hp, hc⟩
  | true =>
    rw [hh, if_pos rfl] at hc hp
    refine .inr ⟨?_, ?_, ?_⟩
    · rw [hp, List.length_map]
      exact fun e => Cut.cutAt_ne 46 _ (List.length_eq_zero_iff.1 e)
    · rw [hc]
      intro e
      have := (h.wd (bs []) (by rw [hp, e]; exact List.mem_map.2 ⟨[], List.mem_singleton.2 rfl, rfl⟩)).1
      rw [bs_toList] at this
      exact this rfl
    · rw [hp, tl_bs2, hc]
theorem mn_one (n : Nat) : mn (n : Int) 1 = if n = 0 then 0 else 1 := by unfold mn; split <;> split <;> omega
theorem pr_l1 (a b : List ByteArray) (ha : a.length < 1000000) (hb : b.length < 1000000) (hsa : ∀ s ∈ a, s.size < 1000000) (hsb : ∀ s ∈ b, s.size < 1000000) (d : Nat) : ∀ i : Nat, i + d = a.length → i ≤ b.length →
    Ev (fun k => spec_Precedence.l1 k a b (i : Int)) (lexL Seg.idS ((tl a).drop i) ((tl b).drop i), true) := by
  have dr : ∀ (l : List ByteArray) (i : Nat) (h : i < l.length), (tl l).drop i = (l[i]'h).toList :: (tl l).drop (i + 1) := by
    intro l i h
    unfold tl
    rw [← List.map_drop, List.drop_eq_getElem_cons h, List.map_cons, List.map_drop]
  have en : ∀ (l : List ByteArray) (i : Nat) (h : ¬ i < l.length), (tl l).drop i = [] := by
    intro l i h
    exact List.drop_of_length_le (by rw [tl_len]; omega)
  have last : ∀ i : Nat, i ≤ a.length → i ≤ b.length → (i = a.length ∨ i = b.length) → Ev (fun k => spec_Precedence.j6 k a b (i : Int) false) (lexL Seg.idS ((tl a).drop i) ((tl b).drop i), true) := by
    intro i hi hj hx
    refine Ev.step (fun k => by rw [spec_Precedence.j6, ordI_f]) ?_
    refine ev_neg (by simp) (ev_some ?_)
    have e : lexL Seg.idS ((tl a).drop i) ((tl b).drop i) = cI (a.length : Int) (b.length : Int) := by
      by_cases h1 : i < a.length
      · have h2 : ¬ i < b.length := by omega
        rw [dr a i h1, en b i h2, lexL, cI_pos.2 (by omega)]
      · by_cases h2 : i < b.length
        · rw [en a i h1, dr b i h2, lexL, cI_neg.2 (by omega)]
        · rw [en a i h1, en b i h2, lexL, cI_zero.2 (by omega)]
    rw [e]
    exact Ev.now _
  induction d with
  | zero =>
    intro i hi hj
    refine Ev.step (fun k => by rw [spec_Precedence.l1]) ?_
    exact ev_neg (by omega) (last i (by omega) hj (.inl (by omega)))
  | succ d ih =>
    intro i hi hj
    refine Ev.step (fun k => by rw [spec_Precedence.l1]) ?_
    refine ev_pos (by omega) ?_
    by_cases h : i < b.length
    · have h1 : i < a.length := by omega
      have w := wr i (by omega)
      have nx := ih (i + 1) (by omega) (by omega)
      rw [← w] at nx
      rw [decide_eq_true (by omega)]
      refine Ev.step (fun k => by rw [spec_Precedence.j6, rdOf_nat _ _ i h1, rdOf_nat _ _ i h]) ?_
      refine ev_pos rfl (ev_pos (by omega) (ev_pos (by omega) (ev_pos (by omega) ((pageOne_ev _ _ (by have := hsa _ (List.getElem_mem h1); omega) (by have := hsb _ (List.getElem_mem h); omega)).bind ?_))))
      rw [dr a i h1, dr b i h, lexL]
      by_cases hz : Seg.idS (a[i]'h1).toList (b[i]'h).toList = 0
      · rw [if_pos hz]
        exact ev_pos hz nx
      · rw [if_neg hz]
        exact ev_neg hz (Ev.now _)
    · rw [decide_eq_false (by omega)]
      exact last i (by omega) hj (.inr (by omega))
/-- Where the numbers are the same: by the identifiers. -/
theorem pr_tail {a b : ByteArray} {xs ys p q : List ByteArray} {m n : ByteArray} (ha : a.size ≤ 1500) (hb : b.size ≤ 1500) (pa : Page a xs p m) (pb : Page b ys q n) (lp : p.length < 1000000) (lq : q.length < 1000000) (sp : ∀ s ∈ p, s.size < 1000000) (sq : ∀ s ∈ q, s.size < 1000000) :
    Ev (fun k => if (p.length : Int) = 0 then spec_Precedence.j4 k p q true else spec_Precedence.j4 k p q ((q.length : Int) == 0)) (Cut.buildC (rs a) (rs b), true) := by
  have none_ : ∀ z : Int, cI ((if q.length = 0 then 0 else 1 : Int)) ((if p.length = 0 then 0 else 1 : Int)) = z → Ev (fun k => spec_Precedence.j4 k p q true) (z, true) := fun z hz => by
    refine Ev.step (fun k => by rw [spec_Precedence.j4, ordI_f, mn_one, mn_one]) ?_
    refine ev_pos rfl (ev_some ?_)
    rw [hz]
    exact Ev.now _
  unfold Cut.buildC
  rcases page_pre pa with ⟨e1, c1⟩ | ⟨e1, c1, t1⟩
  · refine ev_pos (by rw [e1]; rfl) (none_ _ ?_)
    have l0 : p.length = 0 := by rw [e1]; rfl
    rw [if_pos l0, c1]
    rcases page_pre pb with ⟨e2, c2⟩ | ⟨e2, c2, t2⟩
    · have l1 : q.length = 0 := by rw [e2]; rfl
      rw [if_pos l1, c2]
      exact (by decide : cI 0 0 = 0).trans Slk.build_nil.symm
    · rw [if_neg e2]
      unfold Cut.em
      rw [if_pos rfl, if_neg c2]
      rfl
  · refine ev_neg (by omega) ?_
    rcases page_pre pb with ⟨e2, c2⟩ | ⟨e2, c2, t2⟩
    · have l1 : q.length = 0 := by rw [e2]; rfl
      have e : (((q.length : Nat) : Int) == 0) = true := beq_iff_eq.2 (by omega)
      rw [e]
      refine none_ _ ?_
      rw [if_pos l1, if_neg e1, c2]
      unfold Cut.em
      rw [if_neg c1, if_pos rfl]
      rfl
    · have e : (((q.length : Nat) : Int) == 0) = false := beq_eq_false_iff_ne.2 (by omega)
      rw [e]
      refine Ev.step (fun k => by rw [spec_Precedence.j4]) ?_
      have ids := pr_l1 p q lp lq sp sq p.length 0 (by omega) (by omega)
      rw [List.drop_zero, List.drop_zero, specIds_same _ _ pa.known pb.known, t1, t2] at ids
      refine ev_neg (by simp) ?_
      unfold Cut.em
      rw [if_neg c1, if_neg c2, if_pos (by decide)]
      exact ids
theorem pr_l0 (xs ys p q : List ByteArray) (z : Int) (hx : xs.length = 3) (hy : ys.length = 3) (dx : ∀ x ∈ xs, Num.digits x.toList = true) (dy : ∀ y ∈ ys, Num.digits y.toList = true) (sx : ∀ s ∈ xs, s.size < 1000000) (sy : ∀ s ∈ ys, s.size < 1000000) (fin : Ev (fun k => if (p.length : Int) = 0 then spec_Precedence.j4 k p q true else spec_Precedence.j4 k p q ((q.length : Int) == 0)) (z, true)) (d : Nat) : ∀ i : Nat, i + d = 3 →
    Ev (fun k => spec_Precedence.l0 k 3 xs p ys q (i : Int)) (if lexL cI ((xs.map (fun x => (Num.dec x.toList : Int))).drop i) ((ys.map (fun x => (Num.dec x.toList : Int))).drop i) = 0 then z else lexL cI ((xs.map (fun x => (Num.dec x.toList : Int))).drop i) ((ys.map (fun x => (Num.dec x.toList : Int))).drop i), true) := by
  induction d with
  | zero =>
    intro i hi
    rw [List.drop_of_length_le (by rw [List.length_map]; omega), List.drop_of_length_le (by rw [List.length_map]; omega), show lexL cI ([] : List Int) [] = 0 from rfl, if_pos rfl]
    refine Ev.step (fun k => by rw [spec_Precedence.l0]) ?_
    exact ev_neg (by omega) fin
  | succ d ih =>
    intro i hi
    have h1 : i < xs.length := by omega
    have h2 : i < ys.length := by omega
    have w := wr i (by omega)
    have nx := ih (i + 1) (by omega)
    have on := orderNumbers_ev (xs[i]'h1) (ys[i]'h2) (by have := sx _ (List.getElem_mem h1); omega) (by have := sy _ (List.getElem_mem h2); omega)
    rw [Slk.dec_num _ _ (dx _ (List.getElem_mem h1)) (dy _ (List.getElem_mem h2))] at on
    have e1 : (xs.map (fun x => (Num.dec x.toList : Int))).drop i = (Num.dec (xs[i]'h1).toList : Int) :: (xs.map (fun x => (Num.dec x.toList : Int))).drop (i + 1) := by
      rw [← List.map_drop, List.drop_eq_getElem_cons h1, List.map_cons, List.map_drop]
    have e2 : (ys.map (fun x => (Num.dec x.toList : Int))).drop i = (Num.dec (ys[i]'h2).toList : Int) :: (ys.map (fun x => (Num.dec x.toList : Int))).drop (i + 1) := by
      rw [← List.map_drop, List.drop_eq_getElem_cons h2, List.map_cons, List.map_drop]
    rw [e1, e2, lexL]
    refine Ev.step (fun k => by rw [spec_Precedence.l0, rdOf_nat _ _ i h1]) ?_
    refine ev_pos (by omega) (ev_pos (by omega) (ev_pos (by omega) ?_))
    refine Ev.step (fun k => by rw [spec_Precedence.j3, rdOf_nat _ _ i h2, w]) ?_
    refine ev_pos (by omega) (ev_pos (by omega) (on.bind ?_))
    generalize cI (Num.dec (xs[i]'h1).toList : Int) (Num.dec (ys[i]'h2).toList : Int) = c at *
    by_cases hc : c = 0
    · rw [if_pos hc]
      exact ev_pos hc nx
    · rw [if_neg hc, if_neg hc]
      exact ev_neg hc (Ev.now _)
/-- The reference's order of two versions by the page's grammar is the program's. -/
theorem prec_ev (a b : ByteArray) (ha : a.size ≤ 1500) (hb : b.size ≤ 1500) : ∃ (r : Int) (ok : Bool), Ev (fun k => spec_Precedence.f k a b 3 3 false) (r, ok) ∧ (ok = true → r = smT a b ∧ okT a = true ∧ okT b = true ∧ (∃ x p m, Page a x p m) ∧ ∃ y q n, Page b y q n) := by
  obtain ⟨ra, a1, a2⟩ := core_ev a ha
  obtain ⟨rb, b1, b2⟩ := core_ev b hb
  obtain ⟨xs, p, m, oa⟩ := ra
  obtain ⟨ys, q, n, ob⟩ := rb
  dsimp only at a2 b2
  have bad : ∀ (x : Int) (l1 l2 l3 l4 : List ByteArray), Ev (fun k => spec_Precedence.j1 k x l1 l2 l3 l4 true) (0, false) := fun x l1 l2 l3 l4 => by
    refine Ev.step (fun k => by rw [spec_Precedence.j1]) ?_
    exact ev_pos rfl (Ev.now _)
  have start : ∀ r, Ev (fun k => if oa = true then spec_Precedence.j1 k 3 xs p ys q (!ob) else spec_Precedence.j1 k 3 xs p ys q true) r → Ev (fun k => spec_Precedence.f k a b 3 3 false) r := fun r hr => by
    unfold spec_Precedence.f
    refine ev_neg (by simp) ?_
    refine Ev.step (fun k => by rw [spec_Precedence.j0]) ?_
    exact a1.bind (b1.bind hr)
  cases oa with
  | false => exact ⟨0, false, start _ (ev_neg (by simp) (bad _ _ _ _ _)), fun e => absurd e (by decide)⟩
  | true =>
    cases ob with
    | false => exact ⟨0, false, start _ (ev_pos rfl (bad _ _ _ _ _)), fun e => absurd e (by decide)⟩
    | true =>
      have pa := a2 rfl
      have pb := b2 rfl
      have cs : ∀ {s : ByteArray} {x y : List ByteArray} {z : ByteArray}, s.size ≤ 1500 → Page s x y z → (∀ w ∈ x, w.size < 1000000) ∧ y.length < 1000000 ∧ ∀ w ∈ y, w.size < 1000000 := fun {s x y z} hs h => by
        have lc : (Slk.core3 s.toList).length ≤ 1500 := by
          have i1 : (Slk.core3 s.toList).length ≤ (Cut.upTo 43 s.toList).length := List.Sublist.length_le (List.takeWhile_sublist _)
          have i2 : (Cut.upTo 43 s.toList).length ≤ s.toList.length := List.Sublist.length_le (List.takeWhile_sublist _)
          rw [len_toList] at i2
          omega
        have lp : (Slk.pre3 s.toList).length ≤ 1500 := by
          have i2 : (Cut.upTo 43 s.toList).length ≤ s.toList.length := List.Sublist.length_le (List.takeWhile_sublist _)
          rw [len_toList] at i2
          unfold Slk.pre3
          rw [List.length_drop]
          omega
        obtain ⟨c1, c2⟩ := Cut.cutAt_sizes 46 (Slk.core3 s.toList)
        obtain ⟨d1, d2⟩ := Cut.cutAt_sizes 46 (Slk.pre3 s.toList)
        refine ⟨fun w hw => ?_, ?_, fun w hw => ?_⟩
        · rw [h.en] at hw
          obtain ⟨v, hv, rfl⟩ := List.mem_map.1 hw
          rw [bs_size]
          have := c2 v hv
          omega
        · rw [h.ep]
          split
          · rw [List.length_map]; omega
          · exact (by decide : 0 < 1000000)
        · rw [h.ep] at hw
          split at hw
          · obtain ⟨v, hv, rfl⟩ := List.mem_map.1 hw
            rw [bs_size]
            have := d2 v hv
            omega
          · exact absurd hw List.not_mem_nil
      obtain ⟨s1, s2, s3⟩ := cs ha pa
      obtain ⟨t1, t2, t3⟩ := cs hb pb
      have tl_ := pr_tail ha hb pa pb s2 t2 s3 t3
      have l0 := pr_l0 xs ys p q _ pa.len pb.len pa.dg pb.dg s1 t1 tl_ 3 0 rfl
      rw [List.drop_zero, List.drop_zero] at l0
      have nze : ∀ {s : ByteArray} {x y : List ByteArray} {z : ByteArray}, Page s x y z → x.map (fun x => (Num.dec x.toList : Int)) = nz s := fun {s x y z} h => by
        rw [h.en]
        unfold nz
        rw [List.map_map]
        exact List.map_congr_left (fun v _ => by show (Num.dec (bs v).toList : Int) = _; rw [bs_toList])
      rw [nze pa, nze pb] at l0
      refine ⟨if lexL cI (nz a) (nz b) = 0 then Cut.buildC (rs a) (rs b) else lexL cI (nz a) (nz b), true, start _ (ev_pos rfl ?_), fun _ => ⟨?_, page_ok pa ha, page_ok pb hb, ⟨xs, p, m, pa⟩, ys, q, n, pb⟩⟩
      · refine Ev.step (fun k => by rw [spec_Precedence.j1]) ?_
        exact ev_neg (by simp) l0
      · unfold smT smC
        rw [page_parse pa, page_parse pb, padL_lex cI 0 (nz a) (nz b) (by rw [(page_nums pa).2.1, (page_nums pb).2.1])]
end Go.Proofs.YtdliagehkiihpaaGreatDoor.QU
