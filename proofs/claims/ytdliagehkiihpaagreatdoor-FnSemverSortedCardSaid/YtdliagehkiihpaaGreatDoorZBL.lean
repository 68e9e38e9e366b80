/- 'short': of lists of texts.
   What the reference answers: digits.
   What the reference's small functions over lists of texts answer: fits, digits, known segments, numbers in digits.
   What the program answers of texts cut at a byte.
   What the program answers of texts cut at a byte, and of what stands behind a version's numbers.
   What the contracts over texts like versions of SemVer have in common.
   Contracts by hand: versions of Semver out of texts, compared. Printed by wip/tool/gensm.py.
   impl.SemverCompareText as a function that is told: texts of bytes below 128, of at most three numbers. -/
import Derived.Test.YtdliagehkiihpaaGreatDoorZD
import Derived.Test.YtdliagehkiihpaaGreatDoorQBx
import Derived.Test.YtdliagehkiihpaaGreatDoorZA
import Derived.Test.YtdliagehkiihpaaGreatDoorZY
namespace Go.Proofs.YtdliagehkiihpaaGreatDoor.QB
open Go.RowKit Go.Proofs.YtdliagehkiihpaaGreatDoorW.PrintWords Go.Proofs.YtdliagehkiihpaaGreatDoorW.PrintLast Go.Proofs.YtdliagehkiihpaaGreatDoor.Pk Go.Proofs.YtdliagehkiihpaaGreatDoor.Giv
set_option linter.unusedVariables false

/-- Are all texts short, and not many of them? -/
def shortB (l : List ByteArray) : Bool := l.all (fun s => decide (s.size ≤ 1500)) && decide (l.length ≤ 150)
theorem short_loop (l : List ByteArray) (hl : l.length < 4611686018427387904) (d : Nat) : ∀ i : Nat, i + d = l.length → Ev (fun k => laws_short.l0 k l l (l.length : Int) (i : Int)) ((l.drop i).all (fun s => decide (s.size ≤ 1500)) && decide (l.length ≤ 150)) := by
  induction d with
  | zero =>
    intro i hi
    refine Ev.step (fun k => by rw [laws_short.l0]) ?_
    refine ev_neg (by omega) ?_
    rw [List.drop_of_length_le (by omega)]
    have e : decide ((l.length : Int) ≤ 150) = ([].all (fun s : ByteArray => decide (s.size ≤ 1500)) && decide (l.length ≤ 150)) := by
      rw [List.all_nil, Bool.true_and, decide_eq_decide]
      omega
    rw [← e]
    exact Ev.now _
  | succ d ih =>
    intro i hi
    have hlt : i < l.length := by omega
    have r := rdOf_nat ByteArray.empty l i hlt
    have w := wr i (by omega)
    refine Ev.step (fun k => by rw [laws_short.l0, r, w]) ?_
    refine ev_pos (by omega) (ev_pos (by omega) (ev_pos (by omega) ?_))
    rw [List.drop_eq_getElem_cons hlt, List.all_cons]
    by_cases h : ((l[i].size : Int)) > 1500
    · refine ev_pos h ?_
      have e : decide (l[i].size ≤ 1500) = false := by rw [decide_eq_false_iff_not]; omega
      rw [e]
      exact Ev.now _
    · refine ev_neg h ?_
      have e : decide (l[i].size ≤ 1500) = true := by rw [decide_eq_true_eq]; omega
      rw [e, Bool.true_and]
      exact ih (i + 1) (by omega)
theorem short_ev (l : List ByteArray) (hl : l.length < 4611686018427387904) : Ev (fun k => laws_short.f k l) (shortB l) := short_loop l hl l.length 0 (by omega)
theorem short_sizes {l : List ByteArray} (h : shortB l = true) : ∀ s ∈ l, s.size ≤ 1500 := by
  unfold shortB at h
  rw [Bool.and_eq_true, List.all_eq_true] at h
  intro s hs
  simpa using h.1 s hs
end Go.Proofs.YtdliagehkiihpaaGreatDoor.QB

namespace Go.Proofs.YtdliagehkiihpaaGreatDoor.QB
open Go.RowKit Go.Proofs.YtdliagehkiihpaaGreatDoorW.PrintWords Go.Proofs.YtdliagehkiihpaaGreatDoorW.PrintLast Go.Proofs.YtdliagehkiihpaaGreatDoor.Pk Go.Proofs.YtdliagehkiihpaaGreatDoor.Giv Go.Proofs.YtdliagehkiihpaaGreatDoor.Ord
set_option linter.unusedVariables false

theorem isDigit_f (c : UInt8) : spec_isDigit.f (c.toNat : Int) = some (Rpm.dig c) := by
  unfold spec_isDigit.f Rpm.dig
  by_cases h : (c.toNat : Int) ≥ 48
  · rw [if_pos h]
    congr 1
    rw [decide_eq_decide]
    omega
  · rw [if_neg h]
    congr 1
    rw [eq_comm, decide_eq_false_iff_not]
    omega
theorem allDigits_loop (s : ByteArray) (hs : s.size < 4611686018427387904) (d : Nat) : ∀ i : Nat, i + d = s.size → Ev (fun k => spec_allDigits.l0 k s (i : Int)) ((s.toList.drop i).all Rpm.dig && decide (s.size > 0)) := by
  induction d with
  | zero =>
    intro i hi
    refine Ev.step (fun k => by rw [spec_allDigits.l0]) ?_
    refine ev_neg (by omega) ?_
    rw [List.drop_of_length_le (by rw [len_toList]; omega), List.all_nil, Bool.true_and]
    have e : decide ((s.size : Int) > 0) = decide (s.size > 0) := by rw [decide_eq_decide]; omega
    rw [← e]
    exact Ev.now _
  | succ d ih =>
    intro i hi
    have hlt : i < s.size := by omega
    have w := wr i (by omega)
    refine Ev.step (fun k => by rw [spec_allDigits.l0, bt_nat s i hlt, w, isDigit_f]) ?_
    refine ev_pos (by omega) (ev_pos (by omega) (ev_some ?_))
    rw [drop_at s i hlt, List.all_cons]
    cases hd : Rpm.dig (s[i]'hlt) with
    | true => exact ev_pos rfl (ih (i + 1) (by omega))
    | false => exact ev_neg (by simp) (Ev.now _)
theorem allDigits_ev (s : ByteArray) (hs : s.size < 4611686018427387904) : Ev (fun k => spec_allDigits.f k s) (Num.digits s.toList) := by
  unfold spec_allDigits.f
  have := allDigits_loop s hs s.size 0 (by omega)
  have e : ((s.toList.drop 0).all Rpm.dig && decide (s.size > 0)) = Num.digits s.toList := by
    unfold Num.digits
    rw [List.drop_zero, Bool.and_comm]
    congr 1
    rw [Bool.eq_iff_iff, ← len_toList]
    simp [List.length_pos_iff]
  rw [← e]
  exact this
end Go.Proofs.YtdliagehkiihpaaGreatDoor.QB

namespace Go.Proofs.YtdliagehkiihpaaGreatDoor.QB
open Go.RowKit Go.Proofs.YtdliagehkiihpaaGreatDoorW.PrintWords Go.Proofs.YtdliagehkiihpaaGreatDoorW.PrintLast Go.Proofs.YtdliagehkiihpaaGreatDoor.Pk Go.Proofs.YtdliagehkiihpaaGreatDoor.Giv Go.Proofs.YtdliagehkiihpaaGreatDoor.Ord
set_option linter.unusedVariables false

theorem tail_eq (s : ByteArray) (h : 0 < s.size) : s.toList = s[0]'h :: (s.extract 1 s.size).toList := by
  rw [ext_all]
  have := drop_at s 0 h
  simpa using this
/-- No sign ahead of digits in any. -/
def idK (l : List ByteArray) : Bool := l.all (fun s => !Seg.signed s.toList)
theorem idKnown_loop (l : List ByteArray) (hl : l.length < 4611686018427387904) (hs : ∀ s ∈ l, s.size < 4611686018427387904) (d : Nat) : ∀ i : Nat, i + d = l.length → Ev (fun k => spec_IdentifiersKnown.l0 k l (i : Int)) (idK (l.drop i)) := by
  induction d with
  | zero =>
    intro i hi
    refine Ev.step (fun k => by rw [spec_IdentifiersKnown.l0]) ?_
    refine ev_neg (by omega) ?_
    rw [List.drop_of_length_le (by omega)]
    exact Ev.now _
  | succ d ih =>
    intro i hi
    have hlt : i < l.length := by omega
    have w := wr i (by omega)
    have r := rdOf_nat ByteArray.empty l i hlt
    have hz := hs _ (List.getElem_mem hlt)
    have nx := ih (i + 1) (by omega)
    rw [List.drop_eq_getElem_cons hlt]
    unfold idK at nx ⊢
    rw [List.all_cons]
    generalize l[i]'hlt = s at *
    refine Ev.step (fun k => by rw [spec_IdentifiersKnown.l0, w, r]) ?_
    refine ev_pos (by omega) (ev_pos (by omega) ?_)
    by_cases h1 : (s.size : Int) > 1
    · have h0 : 0 < s.size := by omega
      have et := tail_eq s h0
      have b0 : bt s 0 = ((s[0]'h0).toNat : Int) := bt_nat s 0 h0
      have ad := allDigits_ev (s.extract 1 s.size) (by rw [ByteArray.size_extract]; omega)
      refine ev_pos h1 (ev_pos (by omega) ?_)
      rw [b0]
      have sg : Seg.signed s.toList = ((decide ((s[0]'h0).toNat = 45) || decide ((s[0]'h0).toNat = 43)) && Num.digits (s.extract 1 s.size).toList) := by
        conv => lhs; rw [et]
        rfl
      rw [sg]
      by_cases c1 : ((s[0]'h0).toNat : Int) = 45
      · refine ev_pos c1 (ev_pos (by omega) (ad.bind ?_))
        rw [decide_eq_true (by omega), Bool.true_or, Bool.true_and]
        cases Num.digits (s.extract 1 s.size).toList with
        | true => exact ev_pos rfl (Ev.now _)
        | false => exact ev_neg (by simp) nx
      · refine ev_neg c1 ?_
        by_cases c2 : ((s[0]'h0).toNat : Int) = 43
        · refine ev_pos c2 (ev_pos (by omega) (ad.bind ?_))
          rw [decide_eq_false (by omega), decide_eq_true (by omega), Bool.false_or, Bool.true_and]
          cases Num.digits (s.extract 1 s.size).toList with
          | true => exact ev_pos rfl (Ev.now _)
          | false => exact ev_neg (by simp) nx
        · refine ev_neg c2 ?_
          rw [decide_eq_false (by omega), decide_eq_false (by omega)]
          exact nx
    · refine ev_neg h1 ?_
      have sg : Seg.signed s.toList = false := by
        have hl : s.toList.length ≤ 1 := by rw [len_toList]; omega
        unfold Seg.signed
        cases hc : s.toList with
        | nil => rfl
        | cons c r =>
          have : r = [] := by rw [hc] at hl; simp at hl; exact hl
          subst this
          simp [Num.digits]
      rw [sg]
      exact nx
theorem idKnown_ev (l : List ByteArray) (hl : l.length < 4611686018427387904) (hs : ∀ s ∈ l, s.size < 4611686018427387904) : Ev (fun k => spec_IdentifiersKnown.f k l) (idK l) := by
  have := idKnown_loop l hl hs l.length 0 (by omega)
  exact this
theorem idK_tl {l : List ByteArray} (h : idK l = true) : ∀ x ∈ tl l, Seg.signed x = false := by
  intro x hx
  obtain ⟨s, hs, rfl⟩ := List.mem_map.1 hx
  unfold idK at h
  rw [List.all_eq_true] at h
  simpa using h s hs
end Go.Proofs.YtdliagehkiihpaaGreatDoor.QB

namespace Go.Proofs.YtdliagehkiihpaaGreatDoor.QB
open Go.RowKit Go.Proofs.YtdliagehkiihpaaGreatDoorW.PrintWords Go.Proofs.YtdliagehkiihpaaGreatDoorW.PrintLast Go.Proofs.YtdliagehkiihpaaGreatDoor.Pk Go.Proofs.YtdliagehkiihpaaGreatDoor.Giv Go.Proofs.YtdliagehkiihpaaGreatDoor.Ord
set_option linter.unusedVariables false

theorem sp_one (c : UInt8) : (⟨#[c]⟩ : ByteArray) = bs [c] := rfl
theorem sp_idx_loop (l : List UInt8) (c : UInt8) (hs : l.length < 4611686018427387904) (d : Nat) : ∀ i : Nat, i + d = l.length → (l.take i).any (fun x => x == c) = false → Ev (fun k => semantic_zzIndex.l0 k (bs l) (bs [c]) (i : Int)) (placeOf (fun x => x == c) l) := by
  induction d with
  | zero =>
    intro i hi hno
    have w := wr i (by omega)
    refine Ev.step (fun k => by rw [semantic_zzIndex.l0, bs_size, bs_size]) ?_
    have w' : wrap64 ((i : Int) + (([c] : List UInt8).length : Int)) = ((i + 1 : Nat) : Int) := w
    rw [w']
    refine ev_neg (by omega) ?_
    rw [List.take_of_length_le (by omega)] at hno
    have e : placeOf (fun x => x == c) l = -1 := by
      unfold placeOf
      rw [hno]
      rfl
    rw [e]
    exact Ev.now _
  | succ d ih =>
    intro i hi hno
    have hlt : i < l.length := by omega
    have w := wr i (by omega)
    have w' : wrap64 ((i : Int) + (([c] : List UInt8).length : Int)) = ((i + 1 : Nat) : Int) := w
    refine Ev.step (fun k => by rw [semantic_zzIndex.l0, bs_size, bs_size]) ?_
    rw [w', w]
    refine ev_pos (by omega) (ev_pos (by omega) (ev_pos (by omega) ?_))
    have hx : ((bs l).extract ((i : Int)).toNat (((i + 1 : Nat) : Int)).toNat).toList = [l[i]'hlt] := by
      rw [Int.toNat_natCast, Int.toNat_natCast, bs_ext, bs_toList, List.drop_eq_getElem_cons hlt, show i + 1 - i = 1 by omega]
      rfl
    rw [hx, bs_toList]
    by_cases h : (l[i]'hlt) = c
    · refine ev_pos (by rw [h]) ?_
      rw [placeOf_step _ l i hlt hno (by rw [h]; simp)]
      exact Ev.now _
    · refine ev_neg (fun e => h (List.cons.inj e).1) ?_
      refine ih (i + 1) (by omega) ?_
      rw [List.take_succ_eq_append_getElem hlt, List.any_append, hno]
      simpa using h
theorem sp_idx (l : List UInt8) (c : UInt8) (hs : l.length < 4611686018427387904) : Ev (fun k => semantic_zzIndex.f k (bs l) (bs [c])) (placeOf (fun x => x == c) l) := sp_idx_loop l c hs l.length 0 (by omega) (by simp)
theorem sp_place (c : UInt8) (l : List UInt8) (h : (l.any (fun x => x == c)) = true) : placeOf (fun x => x == c) l = ((Cut.upTo c l).length : Int) := by
  unfold placeOf
  rw [if_pos h]
  congr 1
  induction l with
  | nil => simp at h
  | cons x r ih =>
    unfold Cut.upTo
    rw [List.findIdx_cons]
    by_cases hx : x = c
    · rw [List.takeWhile_cons_of_neg (by simp [hx])]
      simp [hx]
    · rw [List.takeWhile_cons_of_pos (by simp [hx])]
      rw [List.any_cons] at h
      have hr : (r.any fun x => x == c) = true := by simpa [hx] using h
      have := ih hr
      unfold Cut.upTo at this
      have hb : (x == c) = false := by simpa using hx
      rw [hb, List.length_cons]
      simp [this]
theorem sp_loop (c : UInt8) (n : Nat) : ∀ (l : List UInt8) (acc : List ByteArray), l.length ≤ n → acc.length + l.length < 8796093022207 → Ev (fun k => semantic_zzSplit.l1 k (bs l) (bs [c]) acc) (acc ++ (Cut.cutAt c l).map bs) := by
  induction n with
  | zero =>
    intro l acc hl ha
    have e : l = [] := List.length_eq_zero_iff.1 (by omega)
    subst e
    refine Ev.step (fun k => by rw [semantic_zzSplit.l1]) ?_
    refine (sp_idx [] c (by simp)).bind ?_
    refine ev_pos (by simp [placeOf]) (ev_pos (by omega) ?_)
    exact Ev.now _
  | succ n ih =>
    intro l acc hl ha
    refine Ev.step (fun k => by rw [semantic_zzSplit.l1]) ?_
    refine (sp_idx l c (by omega)).bind ?_
    by_cases h : (l.any (fun x => x == c)) = true
    · obtain ⟨e1, e2, e3⟩ := Cut.cutAt_yes c l h
      rw [sp_place c l h, e1]
      generalize (Cut.upTo c l).length = j at *
      have w : wrap64 ((j : Int) + ((bs [c]).size : Int)) = ((j + 1 : Nat) : Int) := by
        rw [bs_size]
        exact wr j (by omega)
      refine ev_neg (by omega) (ev_pos (by omega) (ev_pos (by rw [bs_size]; omega) (ev_pos (by omega) ?_)))
      rw [w]
      refine ev_pos (by omega) (ev_pos (by rw [bs_size]; omega) ?_)
      rw [Int.toNat_natCast, Int.toNat_natCast, bs_extAll, bs_extHead, e3]
      have z := ih (l.drop (j + 1)) (acc ++ [bs (Cut.upTo c l)]) (by rw [List.length_drop]; omega) (by rw [List.length_append, List.length_singleton, List.length_drop]; omega)
      rw [List.append_assoc] at z
      exact z
    · have h' : (l.any (fun x => x == c)) = false := Bool.eq_false_iff.2 h
      have e : placeOf (fun x => x == c) l = -1 := by
        unfold placeOf
        rw [h']
        rfl
      rw [e, (Cut.cutAt_no c l h').1]
      refine ev_pos (by omega) (ev_pos (by omega) ?_)
      exact Ev.now _
theorem split_ev (c : UInt8) (l : List UInt8) (hl : l.length < 8796093022207) : Ev (fun k => semantic_zzSplit.f k (bs l) (bs [c])) ((Cut.cutAt c l).map bs) := by
  unfold semantic_zzSplit.f
  refine ev_neg (by rw [bs_size]; simp) ?_
  have := sp_loop c l.length l [] (Nat.le_refl _) (by simpa using hl)
  exact this
end Go.Proofs.YtdliagehkiihpaaGreatDoor.QB

namespace Go.Proofs.YtdliagehkiihpaaGreatDoor.QB
open Go.RowKit Go.Proofs.YtdliagehkiihpaaGreatDoorW.PrintWords Go.Proofs.YtdliagehkiihpaaGreatDoorW.PrintLast Go.Proofs.YtdliagehkiihpaaGreatDoor.Pk Go.Proofs.YtdliagehkiihpaaGreatDoor.Giv Go.Proofs.YtdliagehkiihpaaGreatDoor.Ord
set_option linter.unusedVariables false

theorem first_ev (l : List UInt8) (hl : l.length < 8796093022207) : Ev (fun k => semantic_removeBuildMetadata.f k (bs l)) (bs (Cut.upTo 43 l)) := by
  unfold semantic_removeBuildMetadata.f
  rw [sp_one]
  refine (split_ev 43 l hl).bind ?_
  have e : ∃ t, Cut.cutAt 43 l = Cut.upTo 43 l :: t := by
    by_cases h : (l.any (fun x => x == (43 : UInt8))) = true
    · exact ⟨_, (Cut.cutAt_yes 43 l h).1⟩
    · obtain ⟨a, b⟩ := Cut.cutAt_no 43 l (Bool.eq_false_iff.2 h)
      exact ⟨[], by rw [a, b]⟩
  obtain ⟨t, e⟩ := e
  rw [e]
  refine ev_pos (by simp) ?_
  exact Ev.now _
theorem trim_f (c : UInt8) (l : List UInt8) : strings_TrimPrefix.f (bs l) (bs [c]) = some (bs (Cut.trim c l)) := by
  unfold strings_TrimPrefix.f stringslite_TrimPrefix.f stringslite_HasPrefix.f
  rw [bs_size, bs_size]
  cases l with
  | nil =>
    rw [if_neg (by simp)]
    rfl
  | cons x r =>
    rw [if_pos (by simp; omega), if_pos (by simp), if_pos (by simp; omega), bs_extHead, bs_toList, bs_toList]
    unfold Cut.trim
    by_cases h : x = c
    · subst h
      have e : (List.take [x].length (x :: r) == [x]) = true := by simp
      rw [e]
      simp only [Option.bind_some, if_true]
      rw [if_pos (by simp), if_pos (by simp; omega)]
      have := bs_tail x r
      rw [bs_size] at this
      simp only [Option.bind_some]
      exact congrArg some this
    · have e : (List.take [c].length (x :: r) == [c]) = false := by simpa using h
      rw [e]
      simp only [Option.bind_some, h, if_false]
      rfl
theorem tl_bs (m : List (List UInt8)) : tl (m.map bs) = m := by
  unfold tl
  rw [List.map_map]
  conv => rhs; rw [← List.map_id m]
  refine List.map_congr_left ?_
  intro x _
  exact bs_toList x
theorem fit_cut (c : UInt8) (l : List UInt8) (hl : l.length ≤ 40000) : fit ((Cut.cutAt c l).map bs) = true := by
  obtain ⟨a, b⟩ := Cut.cutAt_sizes c l
  unfold fit
  rw [Bool.and_eq_true, List.all_eq_true]
  refine ⟨decide_eq_true (by rw [List.length_map]; omega), fun s hs => decide_eq_true ?_⟩
  obtain ⟨x, hx, rfl⟩ := List.mem_map.1 hs
  rw [bs_size]
  have := b x hx
  omega
theorem em_nil : Cut.em [] = 1 := rfl
theorem em_ne {l : List UInt8} (h : l ≠ []) : Cut.em l = 0 := if_neg h
theorem build_ev (a b : List UInt8) (ha : a.length ≤ 40000) (hb : b.length ≤ 40000) : Ev (fun k => semantic_compareBuildComponents.f k (bs a) (bs b)) (Cut.buildC a b) := by
  have la := Cut.core_len a
  have lb := Cut.core_len b
  unfold semantic_compareBuildComponents.f
  refine (first_ev a (by omega)).bind ((first_ev b (by omega)).bind ?_)
  rw [sp_one, trim_f, trim_f]
  refine ev_some (ev_some ?_)
  show Ev (fun k => if (bs (Cut.core a)).toList = ([] : List UInt8) then semantic_compareBuildComponents.j0 k (bs (Cut.core a)) (bs (Cut.core b)) ((bs (Cut.core b)).toList != ([] : List UInt8)) else semantic_compareBuildComponents.j0 k (bs (Cut.core a)) (bs (Cut.core b)) false) (Cut.buildC a b)
  have last : Ev (fun k => semantic_compareBuildComponents.j1 k (bs (Cut.core a)) (bs (Cut.core b)) false) (lexL Seg.idC (Cut.cutAt 46 (Cut.core a)) (Cut.cutAt 46 (Cut.core b))) := by
    refine Ev.step (fun k => by rw [semantic_compareBuildComponents.j1]) ?_
    refine ev_neg (by simp) ?_
    rw [sp_one]
    refine (split_ev 46 _ (by omega)).bind ((split_ev 46 _ (by omega)).bind ?_)
    unfold Giv.semantic_compareSemverBuildComponents.f
    rw [if_pos ⟨fit_cut 46 _ (by omega), fit_cut 46 _ (by omega)⟩, tl_bs, tl_bs]
    exact ev_some (Ev.now _)
  unfold Cut.buildC
  by_cases h1 : Cut.core a = []
  · refine ev_pos (by rw [bs_toList]; exact h1) ?_
    refine Ev.step (fun k => by rw [semantic_compareBuildComponents.j0]) ?_
    by_cases h2 : Cut.core b = []
    · refine ev_neg (by rw [bs_toList]; simp [h2]) (ev_pos (by rw [bs_toList]; exact h1) ?_)
      rw [h1, h2, if_pos (by rfl)]
      rw [h1, h2] at last
      exact last
    · refine ev_pos (by rw [bs_toList]; simpa using h2) ?_
      rw [h1, em_nil, em_ne h2, if_neg (by decide)]
      exact Ev.now _
  · refine ev_neg (by rw [bs_toList]; exact h1) ?_
    refine Ev.step (fun k => by rw [semantic_compareBuildComponents.j0]) ?_
    refine ev_neg (by simp) (ev_neg (by rw [bs_toList]; exact h1) ?_)
    rw [em_ne h1]
    by_cases h2 : Cut.core b = []
    · have e : ((bs (Cut.core b)).toList == ([] : List UInt8)) = true := by rw [bs_toList]; simpa using h2
      rw [e]
      refine Ev.step (fun k => by rw [semantic_compareBuildComponents.j1]) ?_
      refine ev_pos rfl ?_
      rw [h2, em_nil, if_neg (by decide)]
      exact Ev.now _
    · have e : ((bs (Cut.core b)).toList == ([] : List UInt8)) = false := by rw [bs_toList]; simpa using h2
      rw [e, em_ne h2, if_pos (by rfl)]
      exact last
end Go.Proofs.YtdliagehkiihpaaGreatDoor.QB

namespace Go.Proofs.YtdliagehkiihpaaGreatDoor.Giv
open Go.RowKit Go.Proofs.YtdliagehkiihpaaGreatDoorW.PrintWords Go.Proofs.YtdliagehkiihpaaGreatDoorW.PrintLast Go.Proofs.YtdliagehkiihpaaGreatDoor.Pk Go.Proofs.YtdliagehkiihpaaGreatDoor.Ord Go.Proofs.YtdliagehkiihpaaGreatDoor.QB
set_option linter.unusedVariables false
set_option linter.unusedSimpArgs false
/-- Texts of bytes below 128, of at most three numbers. -/
structure TextOk (s : ByteArray) : Prop where
  size : s.size ≤ 40000
  asc : ∀ c ∈ s.toList, c.toNat < 128
  few : (Slk.parse s.toList).1.length ≤ 3
theorem TextOk.tail {s : ByteArray} (h : TextOk s) : (bs (Slk.parse s.toList).2).size ≤ 40000 := by
  rw [bs_size]
  have h1 := (Slk.slk_len (Slk.body s.toList) [] []).2
  have h2 : (Slk.body s.toList).length ≤ s.toList.length := by
    unfold Slk.body
    split
    · rw [List.length_tail]; omega
    · exact Nat.le_refl _
  have h3 := len_toList s
  have h4 := h.size
  unfold Slk.parse
  omega
/-- Two versions compared: by their numbers, then by what stands behind them. -/
def smC (zs ys : List Int) (a b : List UInt8) : Int := if padL cI 0 zs ys = 0 then Cut.buildC a b else padL cI 0 zs ys
theorem snBuild_calls (a b : ByteArray) (w : World) (ha : a.size ≤ 40000) (hb : b.size ≤ 40000) (hL : Laid w) :
    Calls Tryz.prog 69 #[.string a, .string b] w fun e w' => e = .returned (.int .i64 (Cut.buildC a.toList b.toList)) ∧ Below w.heap.size w w' := by
  have h := build_ev a.toList b.toList (by rw [len_toList]; exact ha) (by rw [len_toList]; exact hb)
  rw [← bs_of a, ← bs_of b] at h
  obtain ⟨k, hk⟩ := h.rounds
  exact semantic_compareBuildComponents.calls k a b _ w hk hL
theorem lkS4 {w a w1 : World} {g : Nat} {x0 x1 x2 x3 : Value} (hS : a.cell? ⟨g, 0, none⟩ = some x0 ∧ a.cell? ⟨g, 1, none⟩ = some x1 ∧ a.cell? ⟨g, 2, none⟩ = some x2 ∧ a.cell? ⟨g, 3, none⟩ = some x3 ∧ Below w.heap.size w a) (d : Below a.heap.size a w1) : w1.cell? ⟨g, 0, none⟩ = some x0 ∧ w1.cell? ⟨g, 1, none⟩ = some x1 ∧ w1.cell? ⟨g, 2, none⟩ = some x2 ∧ w1.cell? ⟨g, 3, none⟩ = some x3 ∧ Below w.heap.size w w1 :=
  ⟨(d.cell (World.block_lt_of_cell? a _ hS.1)).trans hS.1, (d.cell (World.block_lt_of_cell? a _ hS.2.1)).trans hS.2.1, (d.cell (World.block_lt_of_cell? a _ hS.2.2.1)).trans hS.2.2.1, (d.cell (World.block_lt_of_cell? a _ hS.2.2.2.1)).trans hS.2.2.2.1, below_then hS.2.2.2.2 hS.2.2.2.2.size d⟩
set_option maxRecDepth 100000 in
set_option maxHeartbeats 1000000 in
theorem fetch3_calls (g : Nat) (A : Option Addr) (n c : Nat) (b : ByteArray) (w : World) (h1 : w.cell? ⟨g, 1, none⟩ = some (.slice A n c)) (h2 : w.cell? ⟨g, 2, none⟩ = some (.string b)) (hn : n ≤ 3) :
    Calls Tryz.prog 67 #[.pointer (some ⟨g, 0, none⟩), .int .i64 3] w fun e w' => e = .returned (.tuple #[.slice A n c, .string b]) ∧ Below w.heap.size w w' := by
  have f1 : decide ((n : Int) ≤ 3) = true := decide_eq_true (by omega)
  have f2 : (n : Int) ≤ 3 := by omega
  clear hn
  go_enter Tryz.func67, Tryz.ntmps67
  go_wp2_with fail
  go_region
  all_goals
    go_wp2_with fail
    go_ret2
    exact ⟨rfl, Below.drew (Below.refl _ _)⟩
set_option maxRecDepth 100000 in
set_option maxHeartbeats 4000000 in
theorem snLike_calls (s : ByteArray) (w : World) (h : TextOk s) (hL : Laid w) :
    Calls Tryz.prog 48 #[.string s, .int .i64 3] w fun e w' => ∃ (A : Option Addr) (n c : Nat), e = .returned (.agg #[.bool (Slk.lead s.toList), .slice A n c, .string (bs (Slk.parse s.toList).2), .string s]) ∧ BOwn w' w.heap.size (.slice A n c) (Slk.parse s.toList).1 ∧ Below w.heap.size w w' := by
  have al := below_alloc (Below.refl w.heap.size w) (Obj.cells #[Value.bool false, .slice none 0 0, .string ⟨#[]⟩, .string ⟨#[]⟩] 46)
  have AL := Aside0.mk al
  have K0 := Aside0.mk (blk_new w (Obj.cells #[Value.bool false, .slice none 0 0, .string ⟨#[]⟩, .string ⟨#[]⟩] 46))
  have pl := parseLike_calls s _ h.size (hL.below al)
  rw [Slk.parseR_asc s h.asc] at pl
  have FEW := Aside0.mk h.few
  clear al h hL
  generalize Slk.lead s.toList = lv at *
  generalize Slk.parse s.toList = full at *
  go_enter Tryz.func48, Tryz.ntmps48
  go_wp2_with (first | (go_at_call 66; (with_reducible refine pl.mono ?_); rintro e w1 ⟨v, rfl, ho, d1⟩; obtain ⟨A, c, rfl, hc, hr⟩ := ho.slice; have HO := Aside0.mk (BOwn.lower ho AL.out.size); have D1 := Aside0.mk (below_then AL.out AL.out.size d1); have k1 := (d1.block _ (blk_lt K0.out)).trans K0.out; have K1 := Aside0.mk k1; clear ho d1 k1 hc hr) | (go_at_call 67; (with_reducible refine (fetch3_calls w1.heap.size A full.1.length c (bs full.2) _ (blk_cell (blk_new w1 (Obj.cells #[Value.bool lv, .slice A full.1.length c, .string (bs full.2), .string s] 46)) 1) (blk_cell (blk_new w1 (Obj.cells #[Value.bool lv, .slice A full.1.length c, .string (bs full.2), .string s] 46)) 2) FEW.out).mono ?_); rintro e w2 ⟨rfl, d2⟩; have m2 := (d2.block _ (blk_lt (blk_new w1 (Obj.cells #[Value.bool lv, .slice A full.1.length c, .string (bs full.2), .string s] 46)))).trans (blk_new w1 (Obj.cells #[Value.bool lv, .slice A full.1.length c, .string (bs full.2), .string s] 46)); have k2 := (d2.block _ (blk_lt (blk_alloc K1.out (Obj.cells #[Value.bool lv, .slice A full.1.length c, .string (bs full.2), .string s] 46)))).trans (blk_alloc K1.out (Obj.cells #[Value.bool lv, .slice A full.1.length c, .string (bs full.2), .string s] 46)); have K2 := Aside0.mk k2; have HO2 := Aside0.mk (HO.out.below ((below_alloc (Below.refl w1.heap.size w1) (Obj.cells #[Value.bool lv, .slice A full.1.length c, .string (bs full.2), .string s] 46)).trans (d2.mono (below_alloc (Below.refl w1.heap.size w1) (Obj.cells #[Value.bool lv, .slice A full.1.length c, .string (bs full.2), .string s] 46)).size))); have D2 := Aside0.mk (below_then (below_alloc D1.out (Obj.cells #[Value.bool lv, .slice A full.1.length c, .string (bs full.2), .string s] 46)) (below_alloc D1.out (Obj.cells #[Value.bool lv, .slice A full.1.length c, .string (bs full.2), .string s] 46)).size d2); have q0 := blk_cell m2 0; have q3 := blk_cell m2 3; have p0 := blk_cell k2 0; have p1 := blk_cell k2 1; have p2 := blk_cell k2 2; have p3 := blk_cell k2 3; have f0 := Lib.frozen_of_heap k2 0; have f1 := Lib.frozen_of_heap k2 1; have f2 := Lib.frozen_of_heap k2 2; have f3 := Lib.frozen_of_heap k2 3; clear d2 m2 k2))
  have M3 := Aside0.mk (sx_put4 K2.out (.bool lv) (.slice A full.1.length c) (.string (bs full.2)) (.string s))
  refine bodyPost_ret (results_cell_row rfl _ _ w.heap.size 46 #[.bool lv, .slice A full.1.length c, .string (bs full.2), .string s] (0, 0) _ rfl M3.out Tryz.underlying46 rfl (by kernel_rfl)) rfl ?_
  exact ⟨A, _, c, rfl, BOwn.sx4 HO2.out K2.out (by decide) (by decide) _ _ _ _, below_set (below_set (below_set (below_set D2.out (Nat.le_refl _)) (Nat.le_refl _)) (Nat.le_refl _)) (Nat.le_refl _)⟩
end Go.Proofs.YtdliagehkiihpaaGreatDoor.Giv

namespace Go.Proofs.YtdliagehkiihpaaGreatDoor.Giv
open Go.RowKit Go.Proofs.YtdliagehkiihpaaGreatDoorW.PrintWords Go.Proofs.YtdliagehkiihpaaGreatDoorW.PrintLast Go.Proofs.YtdliagehkiihpaaGreatDoor.Pk Go.Proofs.YtdliagehkiihpaaGreatDoor.Ord
set_option linter.unusedVariables false
set_option linter.unusedSimpArgs false

set_option maxRecDepth 100000 in
set_option maxHeartbeats 4000000 in
theorem smParse_calls (s : ByteArray) (w : World) (h : TextOk s) (hL : Laid w) :
    Calls Tryz.prog 23 #[.string s] w fun e w' => ∃ (A : Option Addr) (n c : Nat), e = .returned (.agg #[.bool (Slk.lead s.toList), .slice A n c, .string (bs (Slk.parse s.toList).2), .string s]) ∧ BOwn w' w.heap.size (.slice A n c) (Slk.parse s.toList).1 ∧ Below w.heap.size w w' := by
  have al := below_alloc (Below.refl w.heap.size w) (Obj.cells #[Value.bool false, .slice none 0 0, .string ⟨#[]⟩, .string ⟨#[]⟩] 48)
  have AL := Aside0.mk al
  have K0 := Aside0.mk (blk_new w (Obj.cells #[Value.bool false, .slice none 0 0, .string ⟨#[]⟩, .string ⟨#[]⟩] 48))
  have pl := snLike_calls s _ h (hL.below al)
  clear al h hL
  generalize Slk.lead s.toList = lv at *
  generalize Slk.parse s.toList = full at *
  go_enter Tryz.func23, Tryz.ntmps23
  go_wp2_with (first | (go_at_call 48; (with_reducible refine pl.mono ?_); rintro e w1 ⟨A, n, c, rfl, ho, d1⟩; have HO := Aside0.mk (BOwn.lower ho AL.out.size); have D1 := Aside0.mk (below_then AL.out AL.out.size d1); have k1 := (d1.block _ (blk_lt K0.out)).trans K0.out; have K1 := Aside0.mk k1; have p0 := blk_cell k1 0; have p1 := blk_cell k1 1; have p2 := blk_cell k1 2; have p3 := blk_cell k1 3; have f0 := Lib.frozen_of_heap k1 0; have f1 := Lib.frozen_of_heap k1 1; have f2 := Lib.frozen_of_heap k1 2; have f3 := Lib.frozen_of_heap k1 3; clear ho d1 k1))
  have M3 := Aside0.mk (sx_put4 K1.out (.bool lv) (.slice A n c) (.string (bs full.2)) (.string s))
  refine bodyPost_ret (results_cell_row rfl _ _ w.heap.size 48 #[.bool lv, .slice A n c, .string (bs full.2), .string s] (0, 0) _ rfl M3.out Tryz.underlying48 rfl (by kernel_rfl)) rfl ?_
  exact ⟨A, n, c, rfl, BOwn.sx4 HO.out K1.out (by decide) (by decide) _ _ _ _, below_set (below_set (below_set (below_set D1.out (Nat.le_refl _)) (Nat.le_refl _)) (Nat.le_refl _)) (Nat.le_refl _)⟩
set_option maxRecDepth 100000 in
set_option maxHeartbeats 4000000 in
theorem smCompare_calls (lv0 lv1 : Bool) (A0 A1 : Option Addr) (n0 c0 n1 c1 : Nat) (zs ys : List Int) (b0 o0 b1 o1 : ByteArray) (w : World) (e0 : n0 = zs.length) (e1 : n1 = ys.length) (h0 : BRow w A0 zs) (h1 : BRow w A1 ys) (l0 : zs.length ≤ 100000) (l1 : ys.length ≤ 100000) (s0 : b0.size ≤ 40000) (s1 : b1.size ≤ 40000) (hL : Laid w) :
    Calls Tryz.prog 49 #[.agg #[.bool lv0, .slice A0 n0 c0, .string b0, .string o0], .agg #[.bool lv1, .slice A1 n1 c1, .string b1, .string o1]] w fun e w' => e = .returned (.int .i64 (smC zs ys b0.toList b1.toList)) ∧ Below w.heap.size w w' := by
  have x1 := below_alloc (Below.refl w.heap.size w) (Obj.cells #[Value.bool lv0, .slice A0 n0 c0, .string b0, .string o0] 48)
  have x2 := below_alloc x1 (Obj.cells #[Value.bool lv1, .slice A1 n1 c1, .string b1, .string o1] 48)
  have k1 : ((w.alloc (Obj.cells #[Value.bool lv0, .slice A0 n0 c0, .string b0, .string o0] 48)).alloc (Obj.cells #[Value.bool lv1, .slice A1 n1 c1, .string b1, .string o1] 48)).heap[w.heap.size]? = some (Obj.cells #[Value.bool lv0, .slice A0 n0 c0, .string b0, .string o0] 48) := blk_alloc (blk_new w _) _
  have m1 : ((w.alloc (Obj.cells #[Value.bool lv0, .slice A0 n0 c0, .string b0, .string o0] 48)).alloc (Obj.cells #[Value.bool lv1, .slice A1 n1 c1, .string b1, .string o1] 48)).heap[w.heap.size + 1]? = some (Obj.cells #[Value.bool lv1, .slice A1 n1 c1, .string b1, .string o1] 48) := by
    have := blk_new (w.alloc (Obj.cells #[Value.bool lv0, .slice A0 n0 c0, .string b0, .string o0] 48)) (Obj.cells #[Value.bool lv1, .slice A1 n1 c1, .string b1, .string o1] 48)
    simpa using this
  have p1 := blk_cell k1 1
  have q1 := blk_cell m1 1
  have cm : Calls Tryz.prog 68 #[.pointer (some ⟨w.heap.size, 1, none⟩), .slice A1 n1 c1] ((w.alloc (Obj.cells #[Value.bool lv0, .slice A0 n0 c0, .string b0, .string o0] 48)).alloc (Obj.cells #[Value.bool lv1, .slice A1 n1 c1, .string b1, .string o1] 48)) fun e w'' => e = .returned (.int .i64 (padL cI 0 zs ys)) ∧ Below ((w.alloc (Obj.cells #[Value.bool lv0, .slice A0 n0 c0, .string b0, .string o0] 48)).alloc (Obj.cells #[Value.bool lv1, .slice A1 n1 c1, .string b1, .string o1] 48)).heap.size ((w.alloc (Obj.cells #[Value.bool lv0, .slice A0 n0 c0, .string b0, .string o0] 48)).alloc (Obj.cells #[Value.bool lv1, .slice A1 n1 c1, .string b1, .string o1] 48)) w'' := by
    subst e0
    subst e1
    exact compCmp_calls w.heap.size 1 A0 A1 c0 c1 zs ys _ p1 (h0.below x2) (h1.below x2) (by omega) (by omega)
  have cb : ∀ w' : World, Below w.heap.size w w' → Calls Tryz.prog 69 #[.string b0, .string b1] w' fun e w'' => e = .returned (.int .i64 (Cut.buildC b0.toList b1.toList)) ∧ Below w'.heap.size w' w'' := fun w' d => snBuild_calls b0 b1 w' s0 s1 (hL.below d)
  have X2 := Aside0.mk x2
  have K1 := Aside0.mk k1
  have M1 := Aside0.mk m1
  have CE := Aside0.mk (show smC zs ys b0.toList b1.toList = if padL cI 0 zs ys = 0 then Cut.buildC b0.toList b1.toList else padL cI 0 zs ys from rfl)
  clear x1 x2 k1 m1 h0 h1 l0 l1 s0 s1 hL e0 e1
  generalize padL cI 0 zs ys = c at *
  generalize Cut.buildC b0.toList b1.toList = bc at *
  generalize smC zs ys b0.toList b1.toList = r at *
  by_cases hc : c = 0
  · subst hc
    have RV := Aside0.mk (show r = bc by rw [CE.out, if_pos rfl])
    clear CE
    go_enter Tryz.func49, Tryz.ntmps49
    go_wp2_with (first | (go_at_call 68; (with_reducible refine cm.mono ?_); rintro e w1 ⟨rfl, d1⟩; have D1 := Aside0.mk (below_then X2.out X2.out.size d1); have K2 := Aside0.mk ((d1.block _ (blk_lt K1.out)).trans K1.out); have M2 := Aside0.mk ((d1.block _ (blk_lt M1.out)).trans M1.out); have r2 : w1.cell? ⟨w.heap.size, 2, none⟩ = some (.string b0) := blk_cell K2.out 2; have s2 : w1.cell? ⟨w.heap.size + 1, 2, none⟩ = some (.string b1) := blk_cell M2.out 2; clear d1) | (go_at_call 69; (with_reducible refine (cb _ D1.out).mono ?_); rintro e w4 ⟨rfl, d4⟩; have D4 := Aside0.mk (below_then D1.out D1.out.size d4); clear d4))
    go_ret
    exact ⟨by rw [RV.out]; rfl, D4.out⟩
  · have RV := Aside0.mk (show r = c by rw [CE.out, if_neg hc])
    have nz : (c != 0) = true := bne_iff_ne.2 hc
    clear CE hc
    go_enter Tryz.func49, Tryz.ntmps49
    go_wp2_with (first | (go_at_call 68; (with_reducible refine cm.mono ?_); rintro e w1 ⟨rfl, d1⟩; have D1 := Aside0.mk (below_then X2.out X2.out.size d1); clear d1))
    go_ret
    exact ⟨by rw [RV.out]; rfl, D1.out⟩
set_option maxRecDepth 100000 in
set_option maxHeartbeats 4000000 in
theorem smStr_calls (lv0 : Bool) (A0 : Option Addr) (n0 c0 : Nat) (zs : List Int) (b0 o0 t : ByteArray) (w : World) (e0 : n0 = zs.length) (h0 : BRow w A0 zs) (l0 : zs.length ≤ 100000) (s0 : b0.size ≤ 40000) (ht : TextOk t) (hL : Laid w) :
    Calls Tryz.prog 24 #[.agg #[.bool lv0, .slice A0 n0 c0, .string b0, .string o0], .string t] w fun e w' => e = .returned (.tuple #[.int .i64 (smC zs (Slk.parse t.toList).1 b0.toList (Slk.parse t.toList).2), .nilIface]) ∧ Below w.heap.size w w' := by
  have x1 := below_alloc (Below.refl w.heap.size w) (Obj.cells #[Value.bool lv0, .slice A0 n0 c0, .string b0, .string o0] 48)
  have k1 := blk_new w (Obj.cells #[Value.bool lv0, .slice A0 n0 c0, .string b0, .string o0] 48)
  have pp : ∀ w' : World, Below w.heap.size w w' → _ := fun w' d => smParse_calls t w' ht (hL.below d)
  have cp : ∀ (A1 : Option Addr) (n1 c1 : Nat) (w' : World), Below w.heap.size w w' → BOwn w' w.heap.size (.slice A1 n1 c1) (Slk.parse t.toList).1 → Calls Tryz.prog 49 #[.agg #[.bool lv0, .slice A0 n0 c0, .string b0, .string o0], .agg #[.bool (Slk.lead t.toList), .slice A1 n1 c1, .string (bs (Slk.parse t.toList).2), .string t]] w' fun e w'' => e = .returned (.int .i64 (smC zs (Slk.parse t.toList).1 b0.toList (Slk.parse t.toList).2)) ∧ Below w'.heap.size w' w'' := fun A1 n1 c1 w' d g1 => by
    obtain ⟨_, _, x1, _, r1⟩ := g1.slice
    injection x1 with y1 z1 _
    subst y1
    have := smCompare_calls lv0 (Slk.lead t.toList) A0 A1 n0 c0 n1 c1 zs (Slk.parse t.toList).1 b0 o0 (bs (Slk.parse t.toList).2) t w' e0 z1 (h0.below d) r1 l0 (Nat.le_trans ht.few (by decide)) s0 ht.tail (hL.below d)
    rwa [bs_toList] at this
  obtain ⟨W, eW⟩ : ∃ W, W = w.alloc (Obj.cells #[Value.bool lv0, .slice A0 n0 c0, .string b0, .string o0] 48) := ⟨_, rfl⟩
  have HS : W.cell? ⟨w.heap.size, 0, none⟩ = some (.bool lv0) ∧ W.cell? ⟨w.heap.size, 1, none⟩ = some (.slice A0 n0 c0) ∧ W.cell? ⟨w.heap.size, 2, none⟩ = some (.string b0) ∧ W.cell? ⟨w.heap.size, 3, none⟩ = some (.string o0) ∧ Below w.heap.size w W := by
    rw [eW]
    exact ⟨blk_cell k1 0, blk_cell k1 1, blk_cell k1 2, blk_cell k1 3, x1⟩
  have HD := lkS4 HS (Below.drew (Below.refl _ _))
  have HE := HD.2.2.2.2
  clear x1 k1 h0 l0 s0 e0 hL ht
  generalize smC zs (Slk.parse t.toList).1 b0.toList (Slk.parse t.toList).2 = r at *
  generalize Slk.lead t.toList = lv1 at *
  generalize Slk.parse t.toList = full at *
  go_enter Tryz.func24, Tryz.ntmps24
  go_wp2_with fail
  rw [← eW]
  clear eW
  go_region_held3 (fun w' => w'.cell? ⟨w.heap.size, 0, none⟩ = some (.bool lv0) ∧ w'.cell? ⟨w.heap.size, 1, none⟩ = some (.slice A0 n0 c0) ∧ w'.cell? ⟨w.heap.size, 2, none⟩ = some (.string b0) ∧ w'.cell? ⟨w.heap.size, 3, none⟩ = some (.string o0) ∧ Below w.heap.size w w') (first | (with_reducible assumption) | (with_reducible exact lkS4 (by with_reducible assumption) (by with_reducible assumption))) (first | (go_at_call 23; (with_reducible refine (pp _ HE).mono ?_); rintro e w1 ⟨A1, n1, c1, rfl, r1, g1⟩; have HE1 := below_then HE HE.size g1; have R1 := r1.lower HE.size) | (go_at_call 49; (with_reducible refine (cp _ _ _ _ HE1 R1).mono ?_); rintro e w2 ⟨rfl, g2⟩; have HE2 := below_then HE1 HE1.size g2))
  go_wp2_with fail
  go_ret2
  exact ⟨rfl, HE2⟩
set_option maxRecDepth 100000 in
set_option maxHeartbeats 4000000 in
theorem smText_calls (a b : ByteArray) (w : World) (ha : TextOk a) (hb : TextOk b) (hL : Laid w) :
    Calls Tryz.prog 11 #[.string a, .string b] w fun e w' => e = .returned (.tuple #[.int .i64 (smC (Slk.parse a.toList).1 (Slk.parse b.toList).1 (Slk.parse a.toList).2 (Slk.parse b.toList).2), .bool true]) ∧ Below w.heap.size w w' := by
  have pa := smParse_calls a w ha hL
  have cs : ∀ (A1 : Option Addr) (n1 c1 : Nat) (w' : World), Below w.heap.size w w' → BOwn w' w.heap.size (.slice A1 n1 c1) (Slk.parse a.toList).1 → Calls Tryz.prog 24 #[.agg #[.bool (Slk.lead a.toList), .slice A1 n1 c1, .string (bs (Slk.parse a.toList).2), .string a], .string b] w' fun e w'' => e = .returned (.tuple #[.int .i64 (smC (Slk.parse a.toList).1 (Slk.parse b.toList).1 (Slk.parse a.toList).2 (Slk.parse b.toList).2), .nilIface]) ∧ Below w'.heap.size w' w'' := fun A1 n1 c1 w' d g1 => by
    obtain ⟨_, _, x1, _, r1⟩ := g1.slice
    injection x1 with y1 z1 _
    subst y1
    have := smStr_calls (Slk.lead a.toList) A1 n1 c1 (Slk.parse a.toList).1 (bs (Slk.parse a.toList).2) a b w' z1 r1 (Nat.le_trans ha.few (by decide)) ha.tail hb (hL.below d)
    rwa [bs_toList] at this
  have hnn := fun w => run_nil_nil Tryz.underlying41 w
  clear ha hb hL
  generalize smC (Slk.parse a.toList).1 (Slk.parse b.toList).1 (Slk.parse a.toList).2 (Slk.parse b.toList).2 = r at *
  generalize Slk.lead a.toList = lv at *
  generalize Slk.parse a.toList = full at *
  go_enter Tryz.func11, Tryz.ntmps11
  go_wp2_with (first | (go_at_call 23; (with_reducible refine pa.mono ?_); rintro e w1 ⟨A1, n1, c1, rfl, r1, g1⟩; have R1 := Aside0.mk r1; have G1 := Aside0.mk g1; clear r1 g1) | (go_at_call 24; (with_reducible refine (cs _ _ _ _ G1.out R1.out).mono ?_); rintro e w2 ⟨rfl, g2⟩; have HE2 := below_then G1.out G1.out.size g2; clear g2))
  go_quiet (fail)
  go_wp2_with fail
  go_ret2
  exact ⟨rfl, bel_drewN HE2 _⟩
end Go.Proofs.YtdliagehkiihpaaGreatDoor.Giv

namespace Go.Proofs.YtdliagehkiihpaaGreatDoor.Giv
open Go.RowKit Go.Proofs.YtdliagehkiihpaaGreatDoorW.PrintWords Go.Proofs.YtdliagehkiihpaaGreatDoorW.PrintLast Go.Proofs.YtdliagehkiihpaaGreatDoor.Pk Go.Proofs.YtdliagehkiihpaaGreatDoor.Ord
set_option linter.unusedVariables false
set_option linter.unusedSimpArgs false
def okT (s : ByteArray) : Bool := decide (s.size ≤ 40000) && s.toList.all (fun c => decide (c.toNat < 128)) && decide ((Slk.parse s.toList).1.length ≤ 3)
theorem okT_ok {s : ByteArray} (h : okT s = true) : TextOk s := by
  unfold okT at h
  rw [Bool.and_eq_true, Bool.and_eq_true] at h
  exact ⟨of_decide_eq_true h.1.1, fun c hc => of_decide_eq_true (List.all_eq_true.1 h.1.2 c hc), of_decide_eq_true h.2⟩
theorem okT_of {s : ByteArray} (h1 : s.size ≤ 40000) (h2 : ∀ c ∈ s.toList, c.toNat < 128) (h3 : (Slk.parse s.toList).1.length ≤ 3) : okT s = true := by
  unfold okT
  rw [decide_eq_true h1, decide_eq_true h3, List.all_eq_true.2 (fun c hc => decide_eq_true (h2 c hc))]
  rfl
def smT (a b : ByteArray) : Int := smC (Slk.parse a.toList).1 (Slk.parse b.toList).1 (Slk.parse a.toList).2 (Slk.parse b.toList).2
def impl_SemverCompareText.f (a0 a1 : ByteArray) : Option (Int × Bool) := if (okT a0 && okT a1) = true then some (smT a0 a1, true) else none
theorem impl_SemverCompareText.calls (a0 a1 : ByteArray) (r1 : Int) (r2 : Bool) (w : World) (h : impl_SemverCompareText.f a0 a1 = some (r1, r2)) (hL : Laid w) :
    Calls Tryz.prog 11 #[.string a0, .string a1] w fun e w' => e = .returned (.tuple #[.int .i64 r1, .bool r2]) ∧ Below w.heap.size w w' := by
  unfold impl_SemverCompareText.f at h
  split at h
  · next hc =>
    rw [Bool.and_eq_true] at hc
    obtain ⟨rfl, rfl⟩ := Prod.mk.inj (Option.some.inj h)
    exact smText_calls a0 a1 w (okT_ok hc.1) (okT_ok hc.2) hL
  · exact absurd h (by simp)
end Go.Proofs.YtdliagehkiihpaaGreatDoor.Giv
