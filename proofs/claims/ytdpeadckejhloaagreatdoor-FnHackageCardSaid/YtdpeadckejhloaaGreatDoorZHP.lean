/- 'short': of lists of texts.
   What the reference answers: digits.
   What the program answers of texts cut at a byte.
   What the reference's small functions over lists of texts answer: fits, digits, known segments, numbers in digits.
   What the program answers of texts cut at a byte, and of what stands behind a version's numbers.
   What the reference answers: numbers in digits compared.
   What the reference answers over identifiers, and over what stands behind a version's numbers.
   'Ascii' of the reference.
   What the reference answers of numbers in decimal: their bytes, and which texts are numbers.
   What the reference answers of two lists of numbers. -/
import Derived.Test.YtdpeadckejhloaaGreatDoorZD
import Derived.Test.YtdpeadckejhloaaGreatDoorQHx
import Derived.Test.YtdpeadckejhloaaGreatDoorZA
import Derived.Test.YtdpeadckejhloaaGreatDoorZY
import Derived.Test.YtdpeadckejhloaaGreatDoorZG
namespace Go.Proofs.YtdpeadckejhloaaGreatDoor.QH
open Go.RowKit Go.Proofs.YtdpeadckejhloaaGreatDoorW.PrintWords Go.Proofs.YtdpeadckejhloaaGreatDoorW.PrintLast Go.Proofs.YtdpeadckejhloaaGreatDoor.Pk Go.Proofs.YtdpeadckejhloaaGreatDoor.Giv
set_option linter.unusedVariables false

/-- Are all texts short, and not many of them? -/
def shortB (l : List ByteArray) : Bool := l.all (fun s => decide (s.size ≤ 1500)) && decide (l.length ≤ 150)
theorem short_loop (l : List ByteArray) (hl : l.length < 4611686018427387904) (d : Nat) : ∀ i : Nat, i + d = l.length → Ev (fun k => laws_short.l0 k l l (l.length : Int) (i : Int)) ((l.drop i).all (fun s => decide (s.size ≤ 1500)) && decide (l.length ≤ 150)) := by
  induction d with
  | zero =>
    intro i hi
    refine Ev.step (fun k => by rw [laws_short.l0]) ?_
    refine ev_neg (by omega) ?_
    rw [List.drop_of_length_le (by omega)]
    have e : decide ((l.length : Int) ≤ 150) = ([].all (fun s : ByteArray => decide (s.size ≤ 1500)) && decide (l.length ≤ 150)) := by
      rw [List.all_nil, Bool.true_and, decide_eq_decide]
      omega
    rw [← e]
    exact Ev.now _
  | succ d ih =>
    intro i hi
    have hlt : i < l.length := by omega
    have r := rdOf_nat ByteArray.empty l i hlt
    have w := wr i (by omega)
    refine Ev.step (fun k => by rw [laws_short.l0, r, w]) ?_
    refine ev_pos (by omega) (ev_pos (by omega) (ev_pos (by omega) ?_))
    rw [List.drop_eq_getElem_cons hlt, List.all_cons]
    by_cases h : ((l[i].size : Int)) > 1500
    · refine ev_pos h ?_
      have e : decide (l[i].size ≤ 1500) = false := by rw [decide_eq_false_iff_not]; omega
      rw [e]
      exact Ev.now _
    · refine ev_neg h ?_
      have e : decide (l[i].size ≤ 1500) = true := by rw [decide_eq_true_eq]; omega
      rw [e, Bool.true_and]
      exact ih (i + 1) (by omega)
theorem short_ev (l : List ByteArray) (hl : l.length < 4611686018427387904) : Ev (fun k => laws_short.f k l) (shortB l) := short_loop l hl l.length 0 (by omega)
theorem short_sizes {l : List ByteArray} (h : shortB l = true) : ∀ s ∈ l, s.size ≤ 1500 := by
  unfold shortB at h
  rw [Bool.and_eq_true, List.all_eq_true] at h
  intro s hs
  simpa using h.1 s hs
end Go.Proofs.YtdpeadckejhloaaGreatDoor.QH

namespace Go.Proofs.YtdpeadckejhloaaGreatDoor.QH
open Go.RowKit Go.Proofs.YtdpeadckejhloaaGreatDoorW.PrintWords Go.Proofs.YtdpeadckejhloaaGreatDoorW.PrintLast Go.Proofs.YtdpeadckejhloaaGreatDoor.Pk Go.Proofs.YtdpeadckejhloaaGreatDoor.Giv Go.Proofs.YtdpeadckejhloaaGreatDoor.Ord
set_option linter.unusedVariables false

theorem isDigit_f (c : UInt8) : spec_isDigit.f (c.toNat : Int) = some (Rpm.dig c) := by
  unfold spec_isDigit.f Rpm.dig
  by_cases h : (c.toNat : Int) ≥ 48
  · rw [if_pos h]
    congr 1
    rw [decide_eq_decide]
    omega
  · rw [if_neg h]
    congr 1
    rw [eq_comm, decide_eq_false_iff_not]
    omega
theorem allDigits_loop (s : ByteArray) (hs : s.size < 4611686018427387904) (d : Nat) : ∀ i : Nat, i + d = s.size → Ev (fun k => spec_allDigits.l0 k s (i : Int)) ((s.toList.drop i).all Rpm.dig && decide (s.size > 0)) := by
  induction d with
  | zero =>
    intro i hi
    refine Ev.step (fun k => by rw [spec_allDigits.l0]) ?_
    refine ev_neg (by omega) ?_
    rw [List.drop_of_length_le (by rw [len_toList]; omega), List.all_nil, Bool.true_and]
    have e : decide ((s.size : Int) > 0) = decide (s.size > 0) := by rw [decide_eq_decide]; omega
    rw [← e]
    exact Ev.now _
  | succ d ih =>
    intro i hi
    have hlt : i < s.size := by omega
    have w := wr i (by omega)
    refine Ev.step (fun k => by rw [spec_allDigits.l0, bt_nat s i hlt, w, isDigit_f]) ?_
    refine ev_pos (by omega) (ev_pos (by omega) (ev_some ?_))
    rw [drop_at s i hlt, List.all_cons]
    cases hd : Rpm.dig (s[i]'hlt) with
    | true => exact ev_pos rfl (ih (i + 1) (by omega))
    | false => exact ev_neg (by simp) (Ev.now _)
theorem allDigits_ev (s : ByteArray) (hs : s.size < 4611686018427387904) : Ev (fun k => spec_allDigits.f k s) (Num.digits s.toList) := by
  unfold spec_allDigits.f
  have := allDigits_loop s hs s.size 0 (by omega)
  have e : ((s.toList.drop 0).all Rpm.dig && decide (s.size > 0)) = Num.digits s.toList := by
    unfold Num.digits
    rw [List.drop_zero, Bool.and_comm]
    congr 1
    rw [Bool.eq_iff_iff, ← len_toList]
    simp [List.length_pos_iff]
  rw [← e]
  exact this
end Go.Proofs.YtdpeadckejhloaaGreatDoor.QH

namespace Go.Proofs.YtdpeadckejhloaaGreatDoor.QH
open Go.RowKit Go.Proofs.YtdpeadckejhloaaGreatDoorW.PrintWords Go.Proofs.YtdpeadckejhloaaGreatDoorW.PrintLast Go.Proofs.YtdpeadckejhloaaGreatDoor.Pk Go.Proofs.YtdpeadckejhloaaGreatDoor.Giv Go.Proofs.YtdpeadckejhloaaGreatDoor.Ord
set_option linter.unusedVariables false

theorem sp_one (c : UInt8) : (⟨#[c]⟩ : ByteArray) = bs [c] := rfl
theorem sp_idx_loop (l : List UInt8) (c : UInt8) (hs : l.length < 4611686018427387904) (d : Nat) : ∀ i : Nat, i + d = l.length → (l.take i).any (fun x => x == c) = false → Ev (fun k => semantic_zzIndex.l0 k (bs l) (bs [c]) (i : Int)) (placeOf (fun x => x == c) l) := by
  induction d with
  | zero =>
    intro i hi hno
    have w := wr i (by omega)
    refine Ev.step (fun k => by rw [semantic_zzIndex.l0, bs_size, bs_size]) ?_
    have w' : wrap64 ((i : Int) + (([c] : List UInt8).length : Int)) = ((i + 1 : Nat) : Int) := w
    rw [w']
    refine ev_neg (by omega) ?_
    rw [List.take_of_length_le (by omega)] at hno
    have e : placeOf (fun x => x == c) l = -1 := by
      unfold placeOf
      rw [hno]
      rfl
    rw [e]
    exact Ev.now _
  | succ d ih =>
    intro i hi hno
    have hlt : i < l.length := by omega
    have w := wr i (by omega)
    have w' : wrap64 ((i : Int) + (([c] : List UInt8).length : Int)) = ((i + 1 : Nat) : Int) := w
    refine Ev.step (fun k => by rw [semantic_zzIndex.l0, bs_size, bs_size]) ?_
    rw [w', w]
    refine ev_pos (by omega) (ev_pos (by omega) (ev_pos (by omega) ?_))
    have hx : ((bs l).extract ((i : Int)).toNat (((i + 1 : Nat) : Int)).toNat).toList = [l[i]'hlt] := by
      rw [Int.toNat_natCast, Int.toNat_natCast, bs_ext, bs_toList, List.drop_eq_getElem_cons hlt, show i + 1 - i = 1 by omega]
      rfl
    rw [hx, bs_toList]
    by_cases h : (l[i]'hlt) = c
    · refine ev_pos (by rw [h]) ?_
      rw [placeOf_step _ l i hlt hno (by rw [h]; simp)]
      exact Ev.now _
    · refine ev_neg (fun e => h (List.cons.inj e).1) ?_
      refine ih (i + 1) (by omega) ?_
      rw [List.take_succ_eq_append_getElem hlt, List.any_append, hno]
      simpa using h
theorem sp_idx (l : List UInt8) (c : UInt8) (hs : l.length < 4611686018427387904) : Ev (fun k => semantic_zzIndex.f k (bs l) (bs [c])) (placeOf (fun x => x == c) l) := sp_idx_loop l c hs l.length 0 (by omega) (by simp)
theorem sp_place (c : UInt8) (l : List UInt8) (h : (l.any (fun x => x == c)) = true) : placeOf (fun x => x == c) l = ((Cut.upTo c l).length : Int) := by
  unfold placeOf
  rw [if_pos h]
  congr 1
  induction l with
  | nil => simp at h
  | cons x r ih =>
    unfold Cut.upTo
    rw [List.findIdx_cons]
    by_cases hx : x = c
    · rw [List.takeWhile_cons_of_neg (by simp [hx])]
      simp [hx]
    · rw [List.takeWhile_cons_of_pos (by simp [hx])]
      rw [List.any_cons] at h
      have hr : (r.any fun x => x == c) = true := by simpa [hx] using h
      have := ih hr
      unfold Cut.upTo at this
      have hb : (x == c) = false := by simpa using hx
      rw [hb, List.length_cons]
      simp [this]
theorem sp_loop (c : UInt8) (n : Nat) : ∀ (l : List UInt8) (acc : List ByteArray), l.length ≤ n → acc.length + l.length < 8796093022207 → Ev (fun k => semantic_zzSplit.l1 k (bs l) (bs [c]) acc) (acc ++ (Cut.cutAt c l).map bs) := by
  induction n with
  | zero =>
    intro l acc hl ha
    have e : l = [] := List.length_eq_zero_iff.1 (by omega)
    subst e
    refine Ev.step (fun k => by rw [semantic_zzSplit.l1]) ?_
    refine (sp_idx [] c (by simp)).bind ?_
    refine ev_pos (by simp [placeOf]) (ev_pos (by omega) ?_)
    exact Ev.now _
  | succ n ih =>
    intro l acc hl ha
    refine Ev.step (fun k => by rw [semantic_zzSplit.l1]) ?_
    refine (sp_idx l c (by omega)).bind ?_
    by_cases h : (l.any (fun x => x == c)) = true
    · obtain ⟨e1, e2, e3⟩ := Cut.cutAt_yes c l h
      rw [sp_place c l h, e1]
      generalize (Cut.upTo c l).length = j at *
      have w : wrap64 ((j : Int) + ((bs [c]).size : Int)) = ((j + 1 : Nat) : Int) := by
        rw [bs_size]
        exact wr j (by omega)
      refine ev_neg (by omega) (ev_pos (by omega) (ev_pos (by rw [bs_size]; omega) (ev_pos (by omega) ?_)))
      rw [w]
      refine ev_pos (by omega) (ev_pos (by rw [bs_size]; omega) ?_)
      rw [Int.toNat_natCast, Int.toNat_natCast, bs_extAll, bs_extHead, e3]
      have z := ih (l.drop (j + 1)) (acc ++ [bs (Cut.upTo c l)]) (by rw [List.length_drop]; omega) (by rw [List.length_append, List.length_singleton, List.length_drop]; omega)
      rw [List.append_assoc] at z
      exact z
    · have h' : (l.any (fun x => x == c)) = false := Bool.eq_false_iff.2 h
      have e : placeOf (fun x => x == c) l = -1 := by
        unfold placeOf
        rw [h']
        rfl
      rw [e, (Cut.cutAt_no c l h').1]
      refine ev_pos (by omega) (ev_pos (by omega) ?_)
      exact Ev.now _
theorem split_ev (c : UInt8) (l : List UInt8) (hl : l.length < 8796093022207) : Ev (fun k => semantic_zzSplit.f k (bs l) (bs [c])) ((Cut.cutAt c l).map bs) := by
  unfold semantic_zzSplit.f
  refine ev_neg (by rw [bs_size]; simp) ?_
  have := sp_loop c l.length l [] (Nat.le_refl _) (by simpa using hl)
  exact this
end Go.Proofs.YtdpeadckejhloaaGreatDoor.QH

namespace Go.Proofs.YtdpeadckejhloaaGreatDoor.QH
open Go.RowKit Go.Proofs.YtdpeadckejhloaaGreatDoorW.PrintWords Go.Proofs.YtdpeadckejhloaaGreatDoorW.PrintLast Go.Proofs.YtdpeadckejhloaaGreatDoor.Pk Go.Proofs.YtdpeadckejhloaaGreatDoor.Giv Go.Proofs.YtdpeadckejhloaaGreatDoor.Ord
set_option linter.unusedVariables false

theorem tail_eq (s : ByteArray) (h : 0 < s.size) : s.toList = s[0]'h :: (s.extract 1 s.size).toList := by
  rw [ext_all]
  have := drop_at s 0 h
  simpa using this
/-- No sign ahead of digits in any. -/
def idK (l : List ByteArray) : Bool := l.all (fun s => !Seg.signed s.toList)
theorem idKnown_loop (l : List ByteArray) (hl : l.length < 4611686018427387904) (hs : ∀ s ∈ l, s.size < 4611686018427387904) (d : Nat) : ∀ i : Nat, i + d = l.length → Ev (fun k => spec_IdentifiersKnown.l0 k l (i : Int)) (idK (l.drop i)) := by
  induction d with
  | zero =>
    intro i hi
    refine Ev.step (fun k => by rw [spec_IdentifiersKnown.l0]) ?_
    refine ev_neg (by omega) ?_
    rw [List.drop_of_length_le (by omega)]
    exact Ev.now _
  | succ d ih =>
    intro i hi
    have hlt : i < l.length := by omega
    have w := wr i (by omega)
    have r := rdOf_nat ByteArray.empty l i hlt
    have hz := hs _ (List.getElem_mem hlt)
    have nx := ih (i + 1) (by omega)
    rw [List.drop_eq_getElem_cons hlt]
    unfold idK at nx ⊢
    rw [List.all_cons]
    generalize l[i]'hlt = s at *
    refine Ev.step (fun k => by rw [spec_IdentifiersKnown.l0, w, r]) ?_
    refine ev_pos (by omega) (ev_pos (by omega) ?_)
    by_cases h1 : (s.size : Int) > 1
    · have h0 : 0 < s.size := by omega
      have et := tail_eq s h0
      have b0 : bt s 0 = ((s[0]'h0).toNat : Int) := bt_nat s 0 h0
      have ad := allDigits_ev (s.extract 1 s.size) (by rw [ByteArray.size_extract]; omega)
      refine ev_pos h1 (ev_pos (by omega) ?_)
      rw [b0]
      have sg : Seg.signed s.toList = ((decide ((s[0]'h0).toNat = 45) || decide ((s[0]'h0).toNat = 43)) && Num.digits (s.extract 1 s.size).toList) := by
        conv => lhs; rw [et]
        rfl
      rw [sg]
      by_cases c1 : ((s[0]'h0).toNat : Int) = 45
      · refine ev_pos c1 (ev_pos (by omega) (ad.bind ?_))
        rw [decide_eq_true (by omega), Bool.true_or, Bool.true_and]
        cases Num.digits (s.extract 1 s.size).toList with
        | true => exact ev_pos rfl (Ev.now _)
        | false => exact ev_neg (by simp) nx
      · refine ev_neg c1 ?_
        by_cases c2 : ((s[0]'h0).toNat : Int) = 43
        · refine ev_pos c2 (ev_pos (by omega) (ad.bind ?_))
          rw [decide_eq_false (by omega), decide_eq_true (by omega), Bool.false_or, Bool.true_and]
          cases Num.digits (s.extract 1 s.size).toList with
          | true => exact ev_pos rfl (Ev.now _)
          | false => exact ev_neg (by simp) nx
        · refine ev_neg c2 ?_
          rw [decide_eq_false (by omega), decide_eq_false (by omega)]
          exact nx
    · refine ev_neg h1 ?_
      have sg : Seg.signed s.toList = false := by
        have hl : s.toList.length ≤ 1 := by rw [len_toList]; omega
        unfold Seg.signed
        cases hc : s.toList with
        | nil => rfl
        | cons c r =>
          have : r = [] := by rw [hc] at hl; simp at hl; exact hl
          subst this
          simp [Num.digits]
      rw [sg]
      exact nx
theorem idKnown_ev (l : List ByteArray) (hl : l.length < 4611686018427387904) (hs : ∀ s ∈ l, s.size < 4611686018427387904) : Ev (fun k => spec_IdentifiersKnown.f k l) (idK l) := by
  have := idKnown_loop l hl hs l.length 0 (by omega)
  exact this
theorem idK_tl {l : List ByteArray} (h : idK l = true) : ∀ x ∈ tl l, Seg.signed x = false := by
  intro x hx
  obtain ⟨s, hs, rfl⟩ := List.mem_map.1 hx
  unfold idK at h
  rw [List.all_eq_true] at h
  simpa using h s hs
end Go.Proofs.YtdpeadckejhloaaGreatDoor.QH

namespace Go.Proofs.YtdpeadckejhloaaGreatDoor.QH
open Go.RowKit Go.Proofs.YtdpeadckejhloaaGreatDoorW.PrintWords Go.Proofs.YtdpeadckejhloaaGreatDoorW.PrintLast Go.Proofs.YtdpeadckejhloaaGreatDoor.Pk Go.Proofs.YtdpeadckejhloaaGreatDoor.Giv Go.Proofs.YtdpeadckejhloaaGreatDoor.Ord
set_option linter.unusedVariables false

theorem first_ev (l : List UInt8) (hl : l.length < 8796093022207) : Ev (fun k => semantic_removeBuildMetadata.f k (bs l)) (bs (Cut.upTo 43 l)) := by
  unfold semantic_removeBuildMetadata.f
  rw [sp_one]
  refine (split_ev 43 l hl).bind ?_
  have e : ∃ t, Cut.cutAt 43 l = Cut.upTo 43 l :: t := by
    by_cases h : (l.any (fun x => x == (43 : UInt8))) = true
    · exact ⟨_, (Cut.cutAt_yes 43 l h).1⟩
    · obtain ⟨a, b⟩ := Cut.cutAt_no 43 l (Bool.eq_false_iff.2 h)
      exact ⟨[], by rw [a, b]⟩
  obtain ⟨t, e⟩ := e
  rw [e]
  refine ev_pos (by simp) ?_
  exact Ev.now _
theorem trim_f (c : UInt8) (l : List UInt8) : strings_TrimPrefix.f (bs l) (bs [c]) = some (bs (Cut.trim c l)) := by
  unfold strings_TrimPrefix.f stringslite_TrimPrefix.f stringslite_HasPrefix.f
  rw [bs_size, bs_size]
  cases l with
  | nil =>
    rw [if_neg (by simp)]
    rfl
  | cons x r =>
    rw [if_pos (by simp; omega), if_pos (by simp), if_pos (by simp; omega), bs_extHead, bs_toList, bs_toList]
    unfold Cut.trim
    by_cases h : x = c
    · subst h
      have e : (List.take [x].length (x :: r) == [x]) = true := by simp
      rw [e]
      simp only [Option.bind_some, if_true]
      rw [if_pos (by simp), if_pos (by simp; omega)]
      have := bs_tail x r
      rw [bs_size] at this
      simp only [Option.bind_some]
      exact congrArg some this
    · have e : (List.take [c].length (x :: r) == [c]) = false := by simpa using h
      rw [e]
      simp only [Option.bind_some, h, if_false]
      rfl
theorem tl_bs (m : List (List UInt8)) : tl (m.map bs) = m := by
  unfold tl
  rw [List.map_map]
  conv => rhs; rw [← List.map_id m]
  refine List.map_congr_left ?_
  intro x _
  exact bs_toList x
theorem fit_cut (c : UInt8) (l : List UInt8) (hl : l.length ≤ 40000) : fit ((Cut.cutAt c l).map bs) = true := by
  obtain ⟨a, b⟩ := Cut.cutAt_sizes c l
  unfold fit
  rw [Bool.and_eq_true, List.all_eq_true]
  refine ⟨decide_eq_true (by rw [List.length_map]; omega), fun s hs => decide_eq_true ?_⟩
  obtain ⟨x, hx, rfl⟩ := List.mem_map.1 hs
  rw [bs_size]
  have := b x hx
  omega
theorem em_nil : Cut.em [] = 1 := rfl
theorem em_ne {l : List UInt8} (h : l ≠ []) : Cut.em l = 0 := if_neg h
theorem build_ev (a b : List UInt8) (ha : a.length ≤ 40000) (hb : b.length ≤ 40000) : Ev (fun k => semantic_compareBuildComponents.f k (bs a) (bs b)) (Cut.buildC a b) := by
  have la := Cut.core_len a
  have lb := Cut.core_len b
  unfold semantic_compareBuildComponents.f
  refine (first_ev a (by omega)).bind ((first_ev b (by omega)).bind ?_)
  rw [sp_one, trim_f, trim_f]
  refine ev_some (ev_some ?_)
  show Ev (fun k => if (bs (Cut.core a)).toList = ([] : List UInt8) then semantic_compareBuildComponents.j0 k (bs (Cut.core a)) (bs (Cut.core b)) ((bs (Cut.core b)).toList != ([] : List UInt8)) else semantic_compareBuildComponents.j0 k (bs (Cut.core a)) (bs (Cut.core b)) false) (Cut.buildC a b)
  have last : Ev (fun k => semantic_compareBuildComponents.j1 k (bs (Cut.core a)) (bs (Cut.core b)) false) (lexL Seg.idC (Cut.cutAt 46 (Cut.core a)) (Cut.cutAt 46 (Cut.core b))) := by
    refine Ev.step (fun k => by rw [semantic_compareBuildComponents.j1]) ?_
    refine ev_neg (by simp) ?_
    rw [sp_one]
    refine (split_ev 46 _ (by omega)).bind ((split_ev 46 _ (by omega)).bind ?_)
    unfold Giv.semantic_compareSemverBuildComponents.f
    rw [if_pos ⟨fit_cut 46 _ (by omega), fit_cut 46 _ (by omega)⟩, tl_bs, tl_bs]
    exact ev_some (Ev.now _)
  unfold Cut.buildC
  by_cases h1 : Cut.core a = []
  · refine ev_pos (by rw [bs_toList]; exact h1) ?_
    refine Ev.step (fun k => by rw [semantic_compareBuildComponents.j0]) ?_
    by_cases h2 : Cut.core b = []
    · refine ev_neg (by rw [bs_toList]; simp [h2]) (ev_pos (by rw [bs_toList]; exact h1) ?_)
      rw [h1, h2, if_pos (by rfl)]
      rw [h1, h2] at last
      exact last
    · refine ev_pos (by rw [bs_toList]; simpa using h2) ?_
      rw [h1, em_nil, em_ne h2, if_neg (by decide)]
      exact Ev.now _
  · refine ev_neg (by rw [bs_toList]; exact h1) ?_
    refine Ev.step (fun k => by rw [semantic_compareBuildComponents.j0]) ?_
    refine ev_neg (by simp) (ev_neg (by rw [bs_toList]; exact h1) ?_)
    rw [em_ne h1]
    by_cases h2 : Cut.core b = []
    · have e : ((bs (Cut.core b)).toList == ([] : List UInt8)) = true := by rw [bs_toList]; simpa using h2
      rw [e]
      refine Ev.step (fun k => by rw [semantic_compareBuildComponents.j1]) ?_
      refine ev_pos rfl ?_
      rw [h2, em_nil, if_neg (by decide)]
      exact Ev.now _
    · have e : ((bs (Cut.core b)).toList == ([] : List UInt8)) = false := by rw [bs_toList]; simpa using h2
      rw [e, em_ne h2, if_pos (by rfl)]
      exact last
end Go.Proofs.YtdpeadckejhloaaGreatDoor.QH

namespace Go.Proofs.YtdpeadckejhloaaGreatDoor.QH
open Go.RowKit Go.Proofs.YtdpeadckejhloaaGreatDoorW.PrintWords Go.Proofs.YtdpeadckejhloaaGreatDoorW.PrintLast Go.Proofs.YtdpeadckejhloaaGreatDoor.Pk Go.Proofs.YtdpeadckejhloaaGreatDoor.Giv Go.Proofs.YtdpeadckejhloaaGreatDoor.Ord
set_option linter.unusedVariables false

theorem on_l1 (n : Nat) (a : ByteArray) (sa : List UInt8) (ha : Rpm.strip0 a.toList = a.toList) : ∀ b : ByteArray, b.size ≤ n → b.size < 4611686018427387904 → Ev (fun k => spec_orderNumbers.l1 k a b) (if cI a.size (Rpm.strip0 b.toList).length = 0 then cS a.toList (Rpm.strip0 b.toList) else cI a.size (Rpm.strip0 b.toList).length) := by
  have fin : ∀ b : ByteArray, Rpm.strip0 b.toList = b.toList → Ev (fun k => spec_orderNumbers.j3 k a b) (if cI a.size (Rpm.strip0 b.toList).length = 0 then cS a.toList (Rpm.strip0 b.toList) else cI a.size (Rpm.strip0 b.toList).length) := by
    intro b hb
    rw [hb, len_toList]
    refine Ev.step (fun k => by rw [spec_orderNumbers.j3]) ?_
    by_cases h : (a.size : Int) = (b.size : Int)
    · rw [if_pos (cI_zero.2 h)]
      exact ev_pos h (ev_some (Ev.now _))
    · rw [if_neg (fun e => h (cI_zero.1 e))]
      refine ev_neg h ?_
      unfold spec_orderInts.f cI
      by_cases h1 : (a.size : Int) < (b.size : Int)
      · rw [if_pos h1, if_pos h1]
        exact ev_some (Ev.now _)
      · rw [if_neg h1, if_pos (by omega), if_neg h1, if_pos (by omega)]
        exact ev_some (Ev.now _)
  induction n with
  | zero =>
    intro b hb _
    refine Ev.step (fun k => by rw [spec_orderNumbers.l1]) ?_
    refine ev_neg (by omega) (fin b ?_)
    have : b.toList = [] := List.length_eq_zero_iff.1 (by rw [len_toList]; omega)
    rw [this]
    rfl
  | succ n ih =>
    intro b hb hz
    refine Ev.step (fun k => by rw [spec_orderNumbers.l1]) ?_
    by_cases h : (b.size : Int) > 0
    · have h0 : 0 < b.size := by omega
      have et := tail_eq b h0
      refine ev_pos h (ev_pos (by omega) ?_)
      rw [bt_nat b 0 h0 |> (fun e => (e : bt b 0 = _))]
      by_cases c : ((b[0]'h0).toNat : Int) = 48
      · refine ev_pos c (ev_pos (by omega) ?_)
        have z := ih (b.extract 1 b.size) (by rw [ByteArray.size_extract]; omega) (by rw [ByteArray.size_extract]; omega)
        have e : Rpm.strip0 b.toList = Rpm.strip0 (b.extract 1 b.size).toList := by
          conv => lhs; rw [et]
          unfold Rpm.strip0
          rw [List.dropWhile_cons_of_pos (by simp; omega)]
        rw [e]
        exact z
      · refine ev_neg c (fin b ?_)
        conv => lhs; rw [et]
        unfold Rpm.strip0
        rw [List.dropWhile_cons_of_neg (by simp; omega)]
        exact et.symm
    · refine ev_neg h (fin b ?_)
      have : b.toList = [] := List.length_eq_zero_iff.1 (by rw [len_toList]; omega)
      rw [this]
      rfl
theorem on_l0 (n : Nat) (b : ByteArray) (hb : b.size < 4611686018427387904) : ∀ a : ByteArray, a.size ≤ n → a.size < 4611686018427387904 → Ev (fun k => spec_orderNumbers.l0 k a b) (Rpm.numC a.toList b.toList) := by
  have fin : ∀ a : ByteArray, Rpm.strip0 a.toList = a.toList → Ev (fun k => spec_orderNumbers.j1 k a b) (Rpm.numC a.toList b.toList) := by
    intro a ha
    refine Ev.step (fun k => by rw [spec_orderNumbers.j1]) ?_
    have := on_l1 b.size a [] ha b (Nat.le_refl _) hb
    unfold Rpm.numC
    rw [ha, len_toList]
    exact this
  induction n with
  | zero =>
    intro a ha _
    refine Ev.step (fun k => by rw [spec_orderNumbers.l0]) ?_
    refine ev_neg (by omega) (fin a ?_)
    have : a.toList = [] := List.length_eq_zero_iff.1 (by rw [len_toList]; omega)
    rw [this]
    rfl
  | succ n ih =>
    intro a ha hz
    refine Ev.step (fun k => by rw [spec_orderNumbers.l0]) ?_
    by_cases h : (a.size : Int) > 0
    · have h0 : 0 < a.size := by omega
      have et := tail_eq a h0
      refine ev_pos h (ev_pos (by omega) ?_)
      rw [bt_nat a 0 h0 |> (fun e => (e : bt a 0 = _))]
      by_cases c : ((a[0]'h0).toNat : Int) = 48
      · refine ev_pos c (ev_pos (by omega) ?_)
        have z := ih (a.extract 1 a.size) (by rw [ByteArray.size_extract]; omega) (by rw [ByteArray.size_extract]; omega)
        have e : Rpm.strip0 a.toList = Rpm.strip0 (a.extract 1 a.size).toList := by
          conv => lhs; rw [et]
          unfold Rpm.strip0
          rw [List.dropWhile_cons_of_pos (by simp; omega)]
        unfold Rpm.numC at z ⊢
        rw [e]
        exact z
      · refine ev_neg c (fin a ?_)
        conv => lhs; rw [et]
        unfold Rpm.strip0
        rw [List.dropWhile_cons_of_neg (by simp; omega)]
        exact et.symm
    · refine ev_neg h (fin a ?_)
      have : a.toList = [] := List.length_eq_zero_iff.1 (by rw [len_toList]; omega)
      rw [this]
      rfl
theorem orderNumbers_ev (a b : ByteArray) (ha : a.size < 4611686018427387904) (hb : b.size < 4611686018427387904) : Ev (fun k => spec_orderNumbers.f k a b) (Rpm.numC a.toList b.toList) := on_l0 a.size b hb a (Nat.le_refl _) ha
end Go.Proofs.YtdpeadckejhloaaGreatDoor.QH

namespace Go.Proofs.YtdpeadckejhloaaGreatDoor.QH
open Go.RowKit Go.Proofs.YtdpeadckejhloaaGreatDoorW.PrintWords Go.Proofs.YtdpeadckejhloaaGreatDoorW.PrintLast Go.Proofs.YtdpeadckejhloaaGreatDoor.Pk Go.Proofs.YtdpeadckejhloaaGreatDoor.Giv Go.Proofs.YtdpeadckejhloaaGreatDoor.Ord
set_option linter.unusedVariables false

theorem ordI_f (a b : Int) : spec_orderInts.f a b = some (cI a b) := by
  unfold spec_orderInts.f cI
  by_cases h : a < b
  · rw [if_pos h, if_pos h]
  · rw [if_neg h, if_neg h]
    by_cases h2 : b < a
    · rw [if_pos h2, if_pos h2]
    · rw [if_neg h2, if_neg h2]
theorem pageOne_ev (a b : ByteArray) (ha : a.size < 4611686018427387904) (hb : b.size < 4611686018427387904) : Ev (fun k => spec_pageOne.f k a b) (Seg.idS a.toList b.toList) := by
  have on := orderNumbers_ev a b ha hb
  unfold spec_pageOne.f
  refine (allDigits_ev a ha).bind ((allDigits_ev b hb).bind ?_)
  have tail : ∀ dx dy : Bool, Num.digits a.toList = dx → Num.digits b.toList = dy → Ev (fun k => spec_pageOne.j0 k a b dx dy (dx && dy)) (Seg.idS a.toList b.toList) := by
    intro dx dy e1 e2
    refine Ev.step (fun k => by rw [spec_pageOne.j0]) ?_
    unfold Seg.idS
    rw [e1, e2]
    cases dx with
    | true =>
      cases dy with
      | true => exact ev_pos rfl (on.bind (Ev.now _))
      | false => exact ev_neg (by simp) (ev_pos rfl (Ev.now _))
    | false =>
      cases dy with
      | true => exact ev_neg (by simp) (ev_neg (by simp) (ev_pos rfl (Ev.now _)))
      | false =>
        refine ev_neg (by simp) (ev_neg (by simp) (ev_neg (by simp) ?_))
        unfold Giv.spec_order.f
        exact ev_some (Ev.now _)
  cases hd : Num.digits a.toList with
  | true =>
    refine ev_pos rfl ?_
    have := tail true (Num.digits b.toList) hd rfl
    rw [Bool.true_and] at this
    exact this
  | false =>
    refine ev_neg (by simp) ?_
    have := tail false (Num.digits b.toList) hd rfl
    rw [Bool.false_and] at this
    exact this
theorem ids_loop (a b : List ByteArray) (ha : a.length < 4611686018427387904) (hb : b.length < 4611686018427387904) (hsa : ∀ s ∈ a, s.size < 4611686018427387904) (hsb : ∀ s ∈ b, s.size < 4611686018427387904) (d : Nat) : ∀ i : Nat, i + d = a.length → i ≤ b.length →
    Ev (fun k => spec_Identifiers.l0 k a b (i : Int)) (lexL Seg.idS ((tl a).drop i) ((tl b).drop i)) := by
  have dr : ∀ (l : List ByteArray) (i : Nat) (h : i < l.length), (tl l).drop i = (l[i]'h).toList :: (tl l).drop (i + 1) := by
    intro l i h
    unfold tl
    rw [← List.map_drop, List.drop_eq_getElem_cons h, List.map_cons, List.map_drop]
  have en : ∀ (l : List ByteArray) (i : Nat) (h : ¬ i < l.length), (tl l).drop i = [] := by
    intro l i h
    exact List.drop_of_length_le (by rw [tl_len]; omega)
  have last : ∀ i : Nat, i ≤ a.length → i ≤ b.length → (i = a.length ∨ i = b.length) → Ev (fun k => spec_Identifiers.j1 k a b (i : Int) false) (lexL Seg.idS ((tl a).drop i) ((tl b).drop i)) := by
    intro i hi hj hx
    refine Ev.step (fun k => by rw [spec_Identifiers.j1, ordI_f]) ?_
    refine ev_neg (by simp) (ev_some ?_)
    have e : lexL Seg.idS ((tl a).drop i) ((tl b).drop i) = cI (a.length : Int) (b.length : Int) := by
      by_cases h1 : i < a.length
      · have h2 : ¬ i < b.length := by omega
        rw [dr a i h1, en b i h2, lexL, cI_pos.2 (by omega)]
      · by_cases h2 : i < b.length
        · rw [en a i h1, dr b i h2, lexL, cI_neg.2 (by omega)]
        · rw [en a i h1, en b i h2, lexL, cI_zero.2 (by omega)]
    rw [e]
    exact Ev.now _
  induction d with
  | zero =>
    intro i hi hj
    refine Ev.step (fun k => by rw [spec_Identifiers.l0]) ?_
    exact ev_neg (by omega) (last i (by omega) hj (.inl (by omega)))
  | succ d ih =>
    intro i hi hj
    refine Ev.step (fun k => by rw [spec_Identifiers.l0]) ?_
    refine ev_pos (by omega) ?_
    by_cases h : i < b.length
    · have h1 : i < a.length := by omega
      have w := wr i (by omega)
      have nx := ih (i + 1) (by omega) (by omega)
      rw [← w] at nx
      rw [decide_eq_true (by omega)]
      refine Ev.step (fun k => by rw [spec_Identifiers.j1, rdOf_nat _ _ i h1, rdOf_nat _ _ i h]) ?_
      refine ev_pos rfl (ev_pos (by omega) (ev_pos (by omega) (ev_pos (by omega) ((pageOne_ev _ _ (hsa _ (List.getElem_mem h1)) (hsb _ (List.getElem_mem h))).bind ?_))))
      rw [dr a i h1, dr b i h, lexL]
      by_cases hz : Seg.idS (a[i]'h1).toList (b[i]'h).toList = 0
      · rw [if_pos hz]
        exact ev_pos hz nx
      · rw [if_neg hz]
        exact ev_neg hz (Ev.now _)
    · rw [decide_eq_false (by omega)]
      exact last i (by omega) hj (.inr (by omega))
theorem specIds_ev (a b : List ByteArray) (ha : a.length < 4611686018427387904) (hb : b.length < 4611686018427387904) (hsa : ∀ s ∈ a, s.size < 4611686018427387904) (hsb : ∀ s ∈ b, s.size < 4611686018427387904) : Ev (fun k => spec_Identifiers.f k a b) (lexL Seg.idS (tl a) (tl b)) := by
  have := ids_loop a b ha hb hsa hsb a.length 0 (by omega) (by omega)
  rw [List.drop_zero, List.drop_zero] at this
  exact this
/-- Over identifiers without signs ahead of digits the program's order is the reference's. -/
theorem specIds_same (a b : List ByteArray) (ha : idK a = true) (hb : idK b = true) : lexL Seg.idS (tl a) (tl b) = lexL Seg.idC (tl a) (tl b) :=
  Seg.lexL_congr (p := fun x => Seg.signed x = false) (fun x y hx hy => Seg.idS_eq hx hy) _ _ (idK_tl ha) (idK_tl hb)
theorem liked_small (s : ByteArray) (hs : s.size ≤ 1500) : (liked s.toList).length ≤ 1501 ∧ ∀ x ∈ liked s.toList, x.size ≤ 1500 := by
  have c := Cut.core_len s.toList
  rw [len_toList] at c
  unfold liked
  split
  · exact ⟨by simp, fun x h => absurd h (by simp)⟩
  · obtain ⟨a, b⟩ := Cut.cutAt_sizes 46 (Cut.core s.toList)
    refine ⟨by rw [List.length_map]; omega, fun x h => ?_⟩
    obtain ⟨y, hy, rfl⟩ := List.mem_map.1 h
    rw [bs_size]
    have := b y hy
    omega
theorem liked_nil (s : List UInt8) : (liked s).length = 0 ↔ Cut.core s = [] := by
  unfold liked
  by_cases h : Cut.core s = []
  · rw [if_pos h]
    simp [h]
  · rw [if_neg h, List.length_map]
    have := List.length_pos_iff.2 (Cut.cutAt_ne 46 (Cut.core s))
    constructor
    · omega
    · intro e; exact absurd e h
theorem liked_tl {s : List UInt8} (h : Cut.core s ≠ []) : tl (liked s) = Cut.cutAt 46 (Cut.core s) := by
  unfold liked
  rw [if_neg h, tl_bs]
/-- What stands behind the numbers, by the reference: the program's order. -/
theorem specBuilds_ev (a b : ByteArray) (ha : a.size ≤ 1500) (hb : b.size ≤ 1500) (ka : idK (liked a.toList) = true) (kb : idK (liked b.toList) = true) : Ev (fun k => spec_Builds.f k a b) (Cut.buildC a.toList b.toList) := by
  have ea : Giv.spec_likeIdentifiers.f a = some (liked a.toList) := by unfold Giv.spec_likeIdentifiers.f; rw [if_pos (by omega)]
  have eb : Giv.spec_likeIdentifiers.f b = some (liked b.toList) := by unfold Giv.spec_likeIdentifiers.f; rw [if_pos (by omega)]
  obtain ⟨la, za⟩ := liked_small a ha
  obtain ⟨lb, zb⟩ := liked_small b hb
  have na := liked_nil a.toList
  have nb := liked_nil b.toList
  have mn1 : ∀ n : Nat, mn (n : Int) 1 = if n = 0 then 0 else 1 := fun n => by unfold mn; split <;> split <;> omega
  have none_ : (Cut.core a.toList = [] ∨ Cut.core b.toList = []) → Ev (fun k => spec_Builds.j0 k (liked a.toList) (liked b.toList) true) (Cut.buildC a.toList b.toList) := by
    intro hx
    refine Ev.step (fun k => by rw [spec_Builds.j0, ordI_f, mn1, mn1]) ?_
    refine ev_pos rfl (ev_some ?_)
    unfold Cut.buildC
    by_cases h1 : Cut.core a.toList = []
    · by_cases h2 : Cut.core b.toList = []
      · rw [if_pos (na.2 h1), if_pos (nb.2 h2), h1, h2]
        exact Ev.now _
      · rw [if_pos (na.2 h1), if_neg (fun e => h2 (nb.1 e)), h1, em_nil, em_ne h2]
        exact Ev.now _
    · have h2 : Cut.core b.toList = [] := hx.resolve_left h1
      rw [if_neg (fun e => h1 (na.1 e)), if_pos (nb.2 h2), h2, em_nil, em_ne h1]
      exact Ev.now _
  unfold spec_Builds.f
  rw [ea, eb]
  refine ev_some (ev_some ?_)
  by_cases h1 : Cut.core a.toList = []
  · exact ev_pos (by have := na.2 h1; omega) (none_ (.inl h1))
  · have n1 : ¬ (liked a.toList).length = 0 := fun e => h1 (na.1 e)
    refine ev_neg (by omega) ?_
    by_cases h2 : Cut.core b.toList = []
    · have e : (((liked b.toList).length : Int) == 0) = true := beq_iff_eq.2 (by have := nb.2 h2; omega)
      rw [e]
      exact none_ (.inr h2)
    · have n2 : ¬ (liked b.toList).length = 0 := fun e => h2 (nb.1 e)
      have e : (((liked b.toList).length : Int) == 0) = false := beq_eq_false_iff_ne.2 (by omega)
      rw [e]
      refine Ev.step (fun k => by rw [spec_Builds.j0]) ?_
      have ids := specIds_ev (liked a.toList) (liked b.toList) (by omega) (by omega) (fun x h => by have := za x h; omega) (fun x h => by have := zb x h; omega)
      rw [specIds_same _ _ ka kb, liked_tl h1, liked_tl h2] at ids
      refine ev_neg (by simp) (ids.bind ?_)
      unfold Cut.buildC
      rw [em_ne h1, em_ne h2, if_pos (by decide)]
      exact Ev.now _
end Go.Proofs.YtdpeadckejhloaaGreatDoor.QH

namespace Go.Proofs.YtdpeadckejhloaaGreatDoor.QH
open Go.RowKit Go.Proofs.YtdpeadckejhloaaGreatDoorW.PrintWords Go.Proofs.YtdpeadckejhloaaGreatDoorW.PrintLast Go.Proofs.YtdpeadckejhloaaGreatDoor.Pk Go.Proofs.YtdpeadckejhloaaGreatDoor.Giv
set_option linter.unusedVariables false

def ascB (s : ByteArray) : Bool := s.toList.all (fun c => decide (c.toNat < 128))
theorem ascii_loop (s : ByteArray) (hs : s.size < 4611686018427387904) (d : Nat) : ∀ i : Nat, i + d = s.size → Ev (fun k => spec_Ascii.l0 k s (i : Int)) ((s.toList.drop i).all (fun c => decide (c.toNat < 128))) := by
  induction d with
  | zero =>
    intro i hi
    refine Ev.step (fun k => by rw [spec_Ascii.l0]) ?_
    refine ev_neg (by omega) ?_
    rw [List.drop_of_length_le (by rw [len_toList]; omega)]
    exact Ev.now _
  | succ d ih =>
    intro i hi
    have hlt : i < s.size := by omega
    have b := bt_nat s i hlt
    have w := wr i (by omega)
    refine Ev.step (fun k => by rw [spec_Ascii.l0, b, w]) ?_
    refine ev_pos (by omega) (ev_pos (by omega) ?_)
    rw [drop_at s i hlt, List.all_cons]
    by_cases h : (((s[i]'hlt).toNat : Int)) > 127
    · refine ev_pos h ?_
      rw [show decide ((s[i]'hlt).toNat < 128) = false by rw [decide_eq_false_iff_not]; omega]
      exact Ev.now _
    · refine ev_neg h ?_
      rw [show decide ((s[i]'hlt).toNat < 128) = true by rw [decide_eq_true_eq]; omega, Bool.true_and]
      exact ih (i + 1) (by omega)
theorem ascii_ev (s : ByteArray) (hs : s.size < 4611686018427387904) : Ev (fun k => spec_Ascii.f k s) (ascB s) := ascii_loop s hs s.size 0 (by omega)
end Go.Proofs.YtdpeadckejhloaaGreatDoor.QH

namespace Go.Proofs.YtdpeadckejhloaaGreatDoor.QH
open Go.RowKit Go.Proofs.YtdpeadckejhloaaGreatDoorW.PrintWords Go.Proofs.YtdpeadckejhloaaGreatDoorW.PrintLast Go.Proofs.YtdpeadckejhloaaGreatDoor.Pk Go.Proofs.YtdpeadckejhloaaGreatDoor.Giv Go.Proofs.YtdpeadckejhloaaGreatDoor.Ord
set_option linter.unusedVariables false

/-- A number as the program tells it. -/
def told (z : Int) : Bool × ByteArray := (decide (z < 0), bs (Lb.mag z.natAbs))
end Go.Proofs.YtdpeadckejhloaaGreatDoor.QH

namespace Go.Proofs.YtdpeadckejhloaaGreatDoor.QH
open Go.RowKit Go.Proofs.YtdpeadckejhloaaGreatDoorW.PrintWords Go.Proofs.YtdpeadckejhloaaGreatDoorW.PrintLast Go.Proofs.YtdpeadckejhloaaGreatDoor.Pk Go.Proofs.YtdpeadckejhloaaGreatDoor.Giv Go.Proofs.YtdpeadckejhloaaGreatDoor.Ord
set_option linter.unusedVariables false

theorem told_zero : told 0 = (false, (⟨#[]⟩ : ByteArray)) := by
  unfold told
  rw [show (0 : Int).natAbs = 0 from rfl, Lb.mag_zero]
  rfl
theorem tidy_ev (z : Int) : Ev (fun k => spec_numTidy.f k (told z).1 (told z).2) (told z) := by
  unfold spec_numTidy.f
  refine Ev.step (fun k => by rw [spec_numTidy.l0]) ?_
  unfold told
  dsimp only
  cases e : Lb.mag z.natAbs with
  | nil =>
    have z0 := Lb.mag_nil e
    have hz : ¬ z < 0 := by omega
    rw [decide_eq_false hz]
    refine ev_neg (by rw [bs_size]; simp) (ev_neg (by simp) ?_)
    exact Ev.now _
  | cons c r =>
    have hc := Lb.mag_head _ c r e
    refine ev_pos (by rw [bs_size, List.length_cons]; omega) (ev_pos (by rw [bs_size, List.length_cons]; omega) ?_)
    rw [bs_bt0]
    refine ev_neg (fun h => hc (UInt8.toNat_inj.1 (by rw [show (0 : UInt8).toNat = 0 from rfl]; omega))) ?_
    by_cases hz : z < 0
    · rw [decide_eq_true hz, bs_toList, show ((c :: r) != ([] : List UInt8)) = true from rfl]
      refine ev_pos rfl ?_
      exact Ev.now _
    · rw [decide_eq_false hz]
      refine ev_neg (by simp) ?_
      exact Ev.now _
theorem orderInts_f (a b : Int) : spec_orderInts.f a b = some (cI a b) := by
  unfold spec_orderInts.f cI
  by_cases h : a < b
  · rw [if_pos h, if_pos h]
  · rw [if_neg h, if_neg h]
    by_cases h2 : b < a
    · rw [if_pos h2, if_pos h2]
    · rw [if_neg h2, if_neg h2]
theorem intOrder_j2 (p q : Bool) (a b : Nat) : Ev (fun k => spec_intOrder.j2 k p (bs (Lb.mag a)) q (bs (Lb.mag b))) (cI a b) := by
  have m := Lb.magC_eq a b
  unfold Lb.magC at m
  refine Ev.step (fun k => by rw [spec_intOrder.j2]) ?_
  rw [bs_size, bs_size]
  by_cases h : (Lb.mag a).length = (Lb.mag b).length
  · rw [if_pos h] at m
    refine ev_pos (by omega) ?_
    have : Giv.spec_order.f (bs (Lb.mag a)) (bs (Lb.mag b)) = some (cI a b) := by
      unfold Giv.spec_order.f
      rw [bs_toList, bs_toList, m]
    rw [this]
    exact ev_some (Ev.now _)
  · rw [if_neg h] at m
    refine ev_neg (by omega) ?_
    rw [orderInts_f, m]
    exact ev_some (Ev.now _)
theorem intOrder_ev (z y : Int) : Ev (fun k => spec_intOrder.f k (told z).1 (told z).2 (told y).1 (told y).2) (cI z y) := by
  unfold spec_intOrder.f
  refine (tidy_ev z).bind ((tidy_ev y).bind ?_)
  by_cases hz : z < 0
  · have e1 : (told z).1 = true := decide_eq_true hz
    by_cases hy : y < 0
    · have e2 : (told y).1 = true := decide_eq_true hy
      rw [e1, e2]
      refine ev_pos rfl ?_
      refine Ev.step (fun k => by rw [spec_intOrder.j0]) ?_
      refine ev_neg (by simp) (ev_pos rfl ?_)
      refine Ev.step (fun k => by rw [spec_intOrder.j1]) ?_
      refine ev_neg (by simp) (ev_pos rfl ?_)
      have := intOrder_j2 true true y.natAbs z.natAbs
      rw [show cI ((y.natAbs : Nat) : Int) ((z.natAbs : Nat) : Int) = cI z y by unfold cI; repeat' split; all_goals omega] at this
      exact this
    · have e2 : (told y).1 = false := decide_eq_false hy
      rw [e1, e2]
      refine ev_pos rfl ?_
      refine Ev.step (fun k => by rw [spec_intOrder.j0]) ?_
      rw [show cI z y = -1 by unfold cI; rw [if_pos (by omega)]]
      exact ev_pos rfl (Ev.now _)
  · have e1 : (told z).1 = false := decide_eq_false hz
    by_cases hy : y < 0
    · have e2 : (told y).1 = true := decide_eq_true hy
      rw [e1, e2]
      refine ev_neg (by simp) ?_
      refine Ev.step (fun k => by rw [spec_intOrder.j0]) ?_
      refine ev_neg (by simp) (ev_neg (by simp) ?_)
      refine Ev.step (fun k => by rw [spec_intOrder.j1]) ?_
      rw [show cI z y = 1 by unfold cI; rw [if_neg (by omega), if_pos (by omega)]]
      exact ev_pos rfl (Ev.now _)
    · have e2 : (told y).1 = false := decide_eq_false hy
      rw [e1, e2]
      refine ev_neg (by simp) ?_
      refine Ev.step (fun k => by rw [spec_intOrder.j0]) ?_
      refine ev_neg (by simp) (ev_neg (by simp) ?_)
      refine Ev.step (fun k => by rw [spec_intOrder.j1]) ?_
      refine ev_neg (by simp) (ev_neg (by simp) ?_)
      have := intOrder_j2 false false z.natAbs y.natAbs
      rw [show cI ((z.natAbs : Nat) : Int) ((y.natAbs : Nat) : Int) = cI z y by unfold cI; repeat' split; all_goals omega] at this
      exact this
/-- Numbers as the program tells them. -/
def nl (zs : List Int) : List S55 := zs.map (fun z => ⟨(told z).1, (told z).2⟩)
theorem nl_len (zs : List Int) : (nl zs).length = zs.length := by simp [nl]
theorem nl_rd (zs : List Int) (i : Nat) (h : i < zs.length) : rd_T55 (nl zs) (i : Int) = ⟨(told (zs.getD i 0)).1, (told (zs.getD i 0)).2⟩ := by
  unfold rd_T55 nl
  rw [Int.toNat_natCast, List.getD_eq_getElem?_getD, List.getD_eq_getElem?_getD, List.getElem?_map, List.getElem?_eq_getElem h]
  rfl
theorem nl_none (zs : List Int) (i : Nat) (h : ¬ i < zs.length) : zs.getD i 0 = 0 := by
  rw [List.getD_eq_getElem?_getD, List.getElem?_eq_none (by omega)]
  rfl
theorem pad_num (zs ys : List Int) (n i : Nat) (h : i < n) : padN cI 0 (n - i) (zs.drop i) (ys.drop i) = if cI (zs.getD i 0) (ys.getD i 0) = 0 then padN cI 0 (n - (i + 1)) (zs.drop (i + 1)) (ys.drop (i + 1)) else cI (zs.getD i 0) (ys.getD i 0) := by
  have g : ∀ l : List Int, (l.drop i).headD 0 = l.getD i 0 := by
    intro l
    rw [List.headD_eq_head?_getD, List.head?_drop, List.getD_eq_getElem?_getD]
  rw [show n - i = (n - (i + 1)) + 1 by omega]
  simp only [padN]
  rw [g, g, List.tail_drop, List.tail_drop]
theorem cn_loop (zs ys : List Int) (hz : zs.length < 4611686018427387904) (hy : ys.length < 4611686018427387904) (n : Nat) (hn : n = max zs.length ys.length) (d : Nat) : ∀ i : Nat, i + d = n → Ev (fun k => spec_CompareNumbers.l0 k (nl zs) (nl ys) (i : Int)) (padN cI 0 (n - i) (zs.drop i) (ys.drop i)) := by
  induction d with
  | zero =>
    intro i hi
    refine Ev.step (fun k => by rw [spec_CompareNumbers.l0]) ?_
    rw [nl_len, nl_len, show n - i = 0 by omega]
    refine ev_neg (by omega) ?_
    rw [decide_eq_false (by omega)]
    refine Ev.step (fun k => by rw [spec_CompareNumbers.j1]) ?_
    exact ev_neg (by simp) (Ev.now _)
  | succ d ih =>
    intro i hi
    have w := wr i (by omega)
    have nx := ih (i + 1) (by omega)
    rw [← w] at nx
    rw [pad_num zs ys n i (by omega)]
    obtain ⟨R, hR⟩ : ∃ R, R = (if cI (zs.getD i 0) (ys.getD i 0) = 0 then padN cI 0 (n - (i + 1)) (zs.drop (i + 1)) (ys.drop (i + 1)) else cI (zs.getD i 0) (ys.getD i 0)) := ⟨_, rfl⟩
    rw [← hR]
    have j3 : Ev (fun k => (spec_intOrder.f k (told (zs.getD i 0)).1 (told (zs.getD i 0)).2 (told (ys.getD i 0)).1 (told (ys.getD i 0)).2).bind fun t => if t = 0 then spec_CompareNumbers.l0 k (nl zs) (nl ys) (wrap64 ((i : Int) + 1)) else some t) R := by
      refine (intOrder_ev _ _).bind ?_
      by_cases h : cI (zs.getD i 0) (ys.getD i 0) = 0
      · rw [if_pos h] at hR
        rw [hR]
        exact ev_pos h nx
      · rw [if_neg h] at hR
        rw [hR]
        exact ev_neg h (Ev.now _)
    clear hR
    have j2 : Ev (fun k => spec_CompareNumbers.j2 k (nl zs) (nl ys) (i : Int) (told (zs.getD i 0)).1 (told (zs.getD i 0)).2 false ⟨#[]⟩) R := by
      refine Ev.step (fun k => by rw [spec_CompareNumbers.j2]) ?_
      rw [nl_len]
      by_cases h : i < ys.length
      · refine ev_pos (by omega) (ev_pos (by omega) ?_)
        rw [nl_rd ys i h]
        exact j3
      · refine ev_neg (by omega) ?_
        have g := nl_none ys i h
        generalize ys.getD i 0 = y at *
        subst g
        rw [told_zero] at j3
        exact j3
    have j1 : Ev (fun k => spec_CompareNumbers.j1 k (nl zs) (nl ys) (i : Int) true) R := by
      refine Ev.step (fun k => by rw [spec_CompareNumbers.j1]) ?_
      refine ev_pos rfl ?_
      rw [nl_len]
      by_cases h : i < zs.length
      · refine ev_pos (by omega) (ev_pos (by omega) ?_)
        rw [nl_rd zs i h]
        exact j2
      · refine ev_neg (by omega) ?_
        have g := nl_none zs i h
        generalize zs.getD i 0 = y at *
        subst g
        rw [told_zero] at j2
        exact j2
    refine Ev.step (fun k => by rw [spec_CompareNumbers.l0]) ?_
    rw [nl_len, nl_len]
    by_cases h : i < zs.length
    · exact ev_pos (by omega) j1
    · refine ev_neg (by omega) ?_
      rw [decide_eq_true (by omega)]
      exact j1
theorem compareNumbers_ev (zs ys : List Int) (hz : zs.length < 4611686018427387904) (hy : ys.length < 4611686018427387904) : Ev (fun k => spec_CompareNumbers.f k (nl zs) (nl ys)) (padL cI 0 zs ys) :=
  cn_loop zs ys hz hy _ rfl _ 0 (Nat.zero_add _)
end Go.Proofs.YtdpeadckejhloaaGreatDoor.QH
