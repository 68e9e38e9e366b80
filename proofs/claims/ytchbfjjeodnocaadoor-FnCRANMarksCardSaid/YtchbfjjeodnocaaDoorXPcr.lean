/- What the program answers of CRAN versions with zeros ahead of numbers, and with hyphens for points; lists of numbers that are the same. -/
import Derived.Test.YtchbfjjeodnocaaDoorCPra
import Derived.Test.YtchbfjjeodnocaaDoorXGivCp
import Derived.Test.YtchbfjjeodnocaaDoorQXx
namespace Go.Proofs.YtchbfjjeodnocaaDoor.QX
open Go.RowKit Go.Proofs.YtchbfjjeodnocaaDoorW.PrintWords Go.Proofs.YtchbfjjeodnocaaDoorW.PrintLast Go.Proofs.YtchbfjjeodnocaaDoor.Pk Go.Proofs.YtchbfjjeodnocaaDoor.Giv Go.Proofs.YtchbfjjeodnocaaDoor.Ord
set_option linter.unusedVariables false
set_option linter.unusedSimpArgs false

/-- A zero ahead of each number. -/
def zer : Bool → List UInt8 → List UInt8
  | _, [] => []
  | o, c :: r => if Rpm.dig c = true then (if o = true then c :: zer true r else 48 :: c :: zer true r) else c :: zer false r
theorem hy_dig (c : UInt8) : Rpm.dig (hy c) = Rpm.dig c := by
  unfold hy
  split
  · next h => subst h; decide
  · rfl
theorem hy_of_dig {c : UInt8} (h : Rpm.dig c = true) : hy c = c := by
  unfold hy
  split
  · next e => subst e; exact absurd h (by decide)
  · rfl
theorem zer_hy : ∀ (l : List UInt8) (o : Bool), (zer o l).map hy = zer o (l.map hy)
  | [], o => by cases o <;> rfl
  | c :: r, o => by
    rw [List.map_cons]
    unfold zer
    rw [hy_dig]
    by_cases h : Rpm.dig c = true
    · rw [if_pos h, if_pos h]
      cases o with
      | true => rw [if_pos rfl, if_pos rfl, List.map_cons, zer_hy r true]
      | false => rw [if_neg (by simp), if_neg (by simp), List.map_cons, List.map_cons, zer_hy r true, show hy 48 = 48 from rfl]
    · rw [if_neg h, if_neg h, List.map_cons, zer_hy r false]
theorem zer_nil {o : Bool} {l : List UInt8} : zer o l = [] ↔ l = [] := by
  cases l with
  | nil => cases o <;> simp [zer]
  | cons c r =>
    unfold zer
    split
    · split <;> simp
    · simp
theorem zer_len : ∀ (l : List UInt8) (o : Bool), (zer o l).length ≤ 2 * l.length
  | [], o => by cases o <;> simp [zer]
  | c :: r, o => by
    have a := zer_len r true
    have b := zer_len r false
    unfold zer
    split
    · split <;> simp <;> omega
    · simp; omega
theorem zer_cut : ∀ (l : List UInt8) (o : Bool), ∃ p ps, Cut.cutAt 46 l = p :: ps ∧ Cut.cutAt 46 (zer o l) = zer o p :: ps.map (zer false)
  | [], o => ⟨[], [], rfl, by cases o <;> rfl⟩
  | c :: r, o => by
    by_cases hd : Rpm.dig c = true
    · obtain ⟨p, ps, e1, e2⟩ := zer_cut r true
      have hc : ¬ c = 46 := by rintro rfl; exact absurd hd (by decide)
      refine ⟨c :: p, ps, ?_, ?_⟩
      · unfold Cut.cutAt
        rw [if_neg hc, e1]
      · cases o with
        | true =>
          rw [show zer true (c :: r) = c :: zer true r by rw [zer, if_pos hd, if_pos rfl], show zer true (c :: p) = c :: zer true p by rw [zer, if_pos hd, if_pos rfl]]
          conv => lhs; unfold Cut.cutAt
          rw [if_neg hc, e2]
        | false =>
          rw [show zer false (c :: r) = 48 :: c :: zer true r by rw [zer, if_pos hd, if_neg (by simp)], show zer false (c :: p) = 48 :: c :: zer true p by rw [zer, if_pos hd, if_neg (by simp)]]
          have h1 : Cut.cutAt 46 (c :: zer true r) = (c :: zer true p) :: ps.map (zer false) := by
            conv => lhs; unfold Cut.cutAt
            rw [if_neg hc, e2]
          conv => lhs; unfold Cut.cutAt
          rw [if_neg (by decide), h1]
    · obtain ⟨p, ps, e1, e2⟩ := zer_cut r false
      have z : zer o (c :: r) = c :: zer false r := by rw [zer, if_neg hd]
      rw [z]
      by_cases hc : c = 46
      · refine ⟨[], p :: ps, ?_, ?_⟩
        · unfold Cut.cutAt
          rw [if_pos hc, e1]
        · conv => lhs; unfold Cut.cutAt
          rw [if_pos hc, e2]
          cases o <;> rfl
      · refine ⟨c :: p, ps, ?_, ?_⟩
        · unfold Cut.cutAt
          rw [if_neg hc, e1]
        · rw [show zer o (c :: p) = c :: zer false p by rw [zer, if_neg hd]]
          conv => lhs; unfold Cut.cutAt
          rw [if_neg hc, e2]
theorem zer_all : ∀ (l : List UInt8) (o : Bool), (zer o l).all Rpm.dig = l.all Rpm.dig
  | [], o => by cases o <;> rfl
  | c :: r, o => by
    unfold zer
    by_cases h : Rpm.dig c = true
    · rw [if_pos h]
      cases o with
      | true => rw [if_pos rfl, List.all_cons, List.all_cons, zer_all r true]
      | false => rw [if_neg (by simp), List.all_cons, List.all_cons, List.all_cons, zer_all r true, show Rpm.dig 48 = true by decide, Bool.true_and]
    · rw [if_neg h, List.all_cons, List.all_cons, zer_all r false]
theorem zer_true : ∀ l : List UInt8, l.all Rpm.dig = true → zer true l = l
  | [], _ => rfl
  | c :: r, h => by
    rw [List.all_cons, Bool.and_eq_true] at h
    rw [zer, if_pos h.1, if_pos rfl, zer_true r h.2]
theorem zer_digits (l : List UInt8) (o : Bool) : Num.digits (zer o l) = Num.digits l := by
  unfold Num.digits
  rw [zer_all]
  congr 2
  rw [Bool.eq_iff_iff, List.isEmpty_iff, List.isEmpty_iff, zer_nil]
theorem zer_dec (l : List UInt8) (h : l.all Rpm.dig = true) : Num.dec (zer false l) = Num.dec l := by
  cases l with
  | nil => rfl
  | cons c r =>
    have hh := h
    rw [List.all_cons, Bool.and_eq_true] at hh
    rw [zer, if_pos hh.1, if_neg (by simp), zer_true r hh.2]
    have := Num.dec_append [48] (c :: r)
    rw [show Num.dec [48] = 0 from rfl, Nat.zero_mul, Nat.zero_add] at this
    exact this
theorem zer_parse (l : List UInt8) : Num.parse (zer false l) = Num.parse l := by
  have fin : ∀ (neg : Bool) (r : List UInt8), (if Num.digits (zer false r) then some (if neg then -(Num.dec (zer false r) : Int) else (Num.dec (zer false r) : Int)) else none) = (if Num.digits r then some (if neg then -(Num.dec r : Int) else (Num.dec r : Int)) else none) := by
    intro neg r
    rw [zer_digits]
    by_cases h : Num.digits r = true
    · have ha : r.all Rpm.dig = true := by
        unfold Num.digits at h
        rw [Bool.and_eq_true] at h
        exact h.2
      rw [zer_dec r ha]
    · rw [if_neg h, if_neg h]
  cases l with
  | nil => rfl
  | cons c r =>
    by_cases hd : Rpm.dig c = true
    · have hc : 48 ≤ c.toNat ∧ c.toNat ≤ 57 := by simpa [Rpm.dig] using hd
      have z : zer false (c :: r) = 48 :: c :: zer true r := by rw [zer, if_pos hd, if_neg (by simp)]
      have c1 : Num.cutSign (zer false (c :: r)) = (false, zer false (c :: r)) := by
        rw [z]
        unfold Num.cutSign
        simp only
        rw [if_neg (by decide), if_neg (by decide)]
      have c2 : Num.cutSign (c :: r) = (false, c :: r) := by
        unfold Num.cutSign
        simp only
        rw [if_neg (by omega), if_neg (by omega)]
      unfold Num.parse
      rw [c1, c2]
      exact fin false (c :: r)
    · have z : zer false (c :: r) = c :: zer false r := by rw [zer, if_neg hd]
      rw [z]
      unfold Num.parse Num.cutSign
      simp only
      by_cases h1 : c.toNat = 45
      · rw [if_pos h1, if_pos h1]
        exact fin true r
      · rw [if_neg h1, if_neg h1]
        by_cases h2 : c.toNat = 43
        · rw [if_pos h2, if_pos h2]
          exact fin false r
        · rw [if_neg h2, if_neg h2]
          have := fin false (c :: r)
          rw [z] at this
          exact this
theorem numsOf_zer : ∀ ps : List (List UInt8), numsOf ((ps.map (zer false)).map bs) = numsOf (ps.map bs)
  | [] => rfl
  | p :: ps => by
    rw [List.map_cons, List.map_cons, List.map_cons, numsOf, numsOf, numsOf_zer ps, bs_toList, bs_toList, zer_parse]
/-- Zeros ahead change no version. -/
theorem crN_zer (s : ByteArray) : crN (bs (zer false s.toList)) = crN s := by
  unfold crN
  rw [bs_toList, zer_hy]
  by_cases h : s.toList = []
  · rw [if_pos h, if_pos (zer_nil.2 h)]
  · rw [if_neg h, if_neg (fun e => h (zer_nil.1 e))]
    obtain ⟨p, ps, e1, e2⟩ := zer_cut (s.toList.map hy) false
    rw [e1, e2, ← List.map_cons, numsOf_zer]
/-- Points and hyphens change places. -/
def swp (c : UInt8) : UInt8 := if c = 45 then 46 else if c = 46 then 45 else c
theorem hy_swp (c : UInt8) : hy (swp c) = hy c := by
  unfold hy swp
  by_cases h : c = 45
  · subst h; decide
  · rw [if_neg h, if_neg h]
    by_cases h2 : c = 46
    · subst h2; decide
    · rw [if_neg h2, if_neg h]
theorem crN_swp (s : ByteArray) : crN (bs (s.toList.map swp)) = crN s := by
  unfold crN
  rw [bs_toList, List.map_map, show hy ∘ swp = hy from funext hy_swp]
  by_cases h : s.toList = []
  · rw [if_pos h, if_pos (by rw [h]; rfl)]
  · rw [if_neg h, if_neg (fun e => h (List.map_eq_nil_iff.1 e))]
theorem crA_same (a b : ByteArray) (h : crN b = crN a) : crA a b = (0, (crN a).isSome) := by
  unfold crA
  rw [h]
  cases crN a with
  | none => rfl
  | some zs =>
    have := crC_flip zs zs
    have : crC zs zs = 0 := by omega
    show (crC zs zs, true) = _
    rw [this]
    rfl
theorem ip_ev (s : ByteArray) (hs : s.size ≤ 40000) : Ev (fun k => Giv.impl_CRANParse.f k s) (ipR (crN s)) := by
  unfold Giv.impl_CRANParse.f
  refine (crP_ev s hs).bind ?_
  exact Ev.now _
theorem ic_ev (a b : ByteArray) (ha : a.size ≤ 40000) (hb : b.size ≤ 40000) : Ev (fun k => Giv.impl_CRANCompare.f k a b) (crA a b) := crR_ev a b ha hb
theorem ints_loop (l : List S43) (hl : l.length < 4611686018427387904) (d : Nat) : ∀ i : Nat, i + d = l.length → Ev (fun k => laws_ints.l0 k l l (l.length : Int) (i : Int)) true := by
  induction d with
  | zero =>
    intro i hi
    refine Ev.step (fun k => by rw [laws_ints.l0]) ?_
    refine ev_neg (by omega) ?_
    exact Ev.now _
  | succ d ih =>
    intro i hi
    have w := wr i (by omega)
    refine Ev.step (fun k => by rw [laws_ints.l0, w]) ?_
    refine ev_pos (by omega) (ev_pos (by omega) (ev_pos (by omega) (ev_pos (by omega) (ev_neg (by simp) ?_))))
    exact ih (i + 1) (by omega)
theorem ints_ev (l : List S43) (hl : l.length < 4611686018427387904) : Ev (fun k => laws_ints.f k l l) true := by
  unfold laws_ints.f
  exact ev_pos rfl (ints_loop l hl l.length 0 (Nat.zero_add _))
theorem crN_len (s : ByteArray) (hs : s.size ≤ 40000) (zs : List Int) (h : crN s = some zs) : zs.length ≤ 40001 := by
  unfold crN at h
  split at h
  · obtain rfl : zs = [] := by simpa using h.symm
    simp
  · have := numsOf_len _ _ h
    rw [List.length_map] at this
    have := (Cut.cutAt_sizes 46 (s.toList.map hy)).1
    rw [List.length_map, len_toList] at this
    omega
theorem ip_len (s : ByteArray) (hs : s.size ≤ 40000) : (ipR (crN s)).1.length < 4611686018427387904 := by
  cases h : crN s with
  | none => simp [ipR]
  | some zs =>
    have := crN_len s hs zs h
    simp only [ipR, pn, List.length_map]
    omega
theorem awake1 : crN (⟨#[49, 46, 49]⟩ : ByteArray) = some [1, 1] := by
  unfold crN
  rw [lit_toList [49, 46, 49]]
  rw [show Cut.cutAt 46 (List.map hy [49, 46, 49]) = [[49], [49]] by decide +kernel]
  simp only [List.map_cons, List.map_nil, numsOf, bs_toList]
  rw [show Num.parse [49] = some 1 by decide +kernel]
  simp
theorem awake2 : crN (⟨#[49, 46, 50]⟩ : ByteArray) = some [1, 2] := by
  unfold crN
  rw [lit_toList [49, 46, 50]]
  rw [show Cut.cutAt 46 (List.map hy [49, 46, 50]) = [[49], [50]] by decide +kernel]
  simp only [List.map_cons, List.map_nil, numsOf, bs_toList]
  rw [show Num.parse [49] = some 1 by decide +kernel, show Num.parse [50] = some 2 by decide +kernel]
  simp
theorem cranAwake_ev : Ev (fun k => laws_cranAwake.f k) true := by
  unfold laws_cranAwake.f
  have i1 := ic_ev (⟨#[49, 46, 49]⟩ : ByteArray) (⟨#[49, 46, 50]⟩ : ByteArray) (by decide) (by decide)
  have i2 := ip_ev (⟨#[49, 46, 50]⟩ : ByteArray) (by decide)
  have e : crA (⟨#[49, 46, 49]⟩ : ByteArray) (⟨#[49, 46, 50]⟩ : ByteArray) = (-1, true) := by
    unfold crA
    rw [awake1, awake2]
    rfl
  rw [e] at i1
  rw [awake2] at i2
  refine i1.bind (i2.bind ?_)
  refine ev_pos rfl (ev_pos rfl (ev_pos rfl ?_))
  exact Ev.now _
theorem zeroed_loop (s : ByteArray) (hs : s.size ≤ 1500) (d : Nat) : ∀ (i : Nat) (out : List UInt8) (o : Bool), i + d = s.size → out.length ≤ 2 * i → Ev (fun k => laws_zeroed.l0 k s (bs out) o (i : Int)) (bs (out ++ zer o (s.toList.drop i))) := by
  induction d with
  | zero =>
    intro i out o hi ho
    refine Ev.step (fun k => by rw [laws_zeroed.l0]) ?_
    rw [List.drop_of_length_le (by rw [len_toList]; omega), zer, List.append_nil]
    refine ev_neg (by omega) ?_
    exact Ev.now _
  | succ d ih =>
    intro i out o hi ho
    have hlt : i < s.size := by omega
    have b := bt_nat s i hlt
    have w := wr i (by omega)
    have x1 : s.extract ((i : Int)).toNat (((i + 1 : Nat) : Int)).toNat = bs [s[i]'hlt] := by
      rw [Int.toNat_natCast, Int.toNat_natCast]
      exact bs_eq (by rw [ext_toList, drop_at s i hlt, show i + 1 - i = 1 by omega]; rfl)
    have x2 : ∀ l : List UInt8, (⟨#[48]⟩ : ByteArray) = bs [48] := fun _ => rfl
    refine Ev.step (fun k => by rw [laws_zeroed.l0, b, w, x1, x2 []]) ?_
    rw [drop_at s i hlt]
    generalize s[i]'hlt = c at *
    have hb : ∀ l : List UInt8, (bs l).size = l.length := bs_size
    refine ev_pos (by omega) (ev_pos (by omega) ?_)
    have nodig : Rpm.dig c = false → Ev (fun k => laws_zeroed.l0 k s (bs (out ++ [c])) false ((i + 1 : Nat) : Int)) (bs (out ++ zer o (c :: s.toList.drop (i + 1)))) := by
      intro hd
      have nx := ih (i + 1) (out ++ [c]) false (by omega) (by rw [List.length_append]; simp; omega)
      rw [zer, if_neg (by rw [hd]; simp)]
      rw [List.append_assoc] at nx
      exact nx
    simp only [bs_append, hb]
    by_cases h1 : (c.toNat : Int) ≥ 48
    · refine ev_pos h1 ?_
      by_cases h2 : (c.toNat : Int) ≤ 57
      · have hd : Rpm.dig c = true := by
          unfold Rpm.dig
          simp only [decide_eq_true_eq]
          omega
        refine ev_pos h2 ?_
        rw [decide_eq_true h2]
        rw [zer, if_pos hd]
        cases o with
        | true =>
          have nx := ih (i + 1) (out ++ [c]) true (by omega) (by rw [List.length_append]; simp; omega)
          rw [List.append_assoc] at nx
          refine ev_pos rfl (ev_pos (by omega) (ev_pos (by omega) (ev_pos (by simp; omega) ?_)))
          exact nx
        | false =>
          have nx := ih (i + 1) (out ++ [48] ++ [c]) true (by omega) (by rw [List.length_append, List.length_append]; simp; omega)
          rw [show out ++ [48] ++ [c] ++ zer true (s.toList.drop (i + 1)) = out ++ 48 :: c :: zer true (s.toList.drop (i + 1)) by simp] at nx
          refine ev_neg (by simp) (ev_pos (by omega) (ev_pos (by omega) (ev_pos (by omega) (ev_pos (by simp; omega) ?_))))
          exact nx
      · refine ev_neg h2 ?_
        rw [decide_eq_false h2]
        refine ev_pos (by omega) (ev_pos (by omega) (ev_pos (by simp; omega) ?_))
        refine nodig ?_
        unfold Rpm.dig
        rw [decide_eq_false_iff_not]
        omega
    · refine ev_neg h1 ?_
      refine ev_pos (by omega) (ev_pos (by omega) (ev_pos (by simp; omega) ?_))
      refine nodig ?_
      unfold Rpm.dig
      rw [decide_eq_false_iff_not]
      omega
theorem zeroed_ev (s : ByteArray) (hs : s.size ≤ 1500) : Ev (fun k => laws_zeroed.f k s) (bs (zer false s.toList)) := by
  have := zeroed_loop s hs s.size 0 [] false (Nat.zero_add _) (by simp)
  rw [List.nil_append, List.drop_zero] at this
  exact this
end Go.Proofs.YtchbfjjeodnocaaDoor.QX
