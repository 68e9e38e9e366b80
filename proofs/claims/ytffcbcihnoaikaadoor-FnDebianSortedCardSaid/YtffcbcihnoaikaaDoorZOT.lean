/- 'short': of lists of texts.
   What the reference answers: digits.
   What the reference's small functions over lists of texts answer: fits, digits, known segments, numbers in digits.
   What the reference answers: numbers in digits compared.
   'Ascii' of the reference.
   'indexOf' of the reference.
   What the reference answers of Debian's texts: blanks around, what is known, parts compared.
   What the reference answers of two upstream versions or revisions: the order of parts.
   Whole numbers in bytes, the lowest first: ten times a number and a digit more. Plain Lean, no program.
   Magnitudes compared: by length, then byte by byte. Plain Lean, no program.
   What the reference answers of numbers in decimal: their bytes, and which texts are numbers.
   What the reference answers of two told numbers.
   What the reference answers of a Debian version: into what it falls.
   Lists of texts: each is small enough to be told.
   What the reference answers of two Debian versions compared. -/
import Derived.Test.YtffcbcihnoaikaaDoorZD
import Derived.Test.YtffcbcihnoaikaaDoorQOx
import Derived.Test.YtffcbcihnoaikaaDoorZA
import Derived.Test.YtffcbcihnoaikaaDoorZY
import Derived.Test.YtffcbcihnoaikaaDoorZV
namespace Go.Proofs.YtffcbcihnoaikaaDoor.QO
open Go.RowKit Go.Proofs.YtffcbcihnoaikaaDoorW.PrintWords Go.Proofs.YtffcbcihnoaikaaDoorW.PrintLast Go.Proofs.YtffcbcihnoaikaaDoor.Pk Go.Proofs.YtffcbcihnoaikaaDoor.Giv
set_option linter.unusedVariables false

/-- Are all texts short, and not many of them? -/
def shortB (l : List ByteArray) : Bool := l.all (fun s => decide (s.size ≤ 1500)) && decide (l.length ≤ 150)
theorem short_loop (l : List ByteArray) (hl : l.length < 4611686018427387904) (d : Nat) : ∀ i : Nat, i + d = l.length → Ev (fun k => laws_short.l0 k l l (l.length : Int) (i : Int)) ((l.drop i).all (fun s => decide (s.size ≤ 1500)) && decide (l.length ≤ 150)) := by
  induction d with
  | zero =>
    intro i hi
    refine Ev.step (fun k => by rw [laws_short.l0]) ?_
    refine ev_neg (by omega) ?_
    rw [List.drop_of_length_le (by omega)]
    have e : decide ((l.length : Int) ≤ 150) = ([].all (fun s : ByteArray => decide (s.size ≤ 1500)) && decide (l.length ≤ 150)) := by
      rw [List.all_nil, Bool.true_and, decide_eq_decide]
      omega
    rw [← e]
    exact Ev.now _
  | succ d ih =>
    intro i hi
    have hlt : i < l.length := by omega
    have r := rdOf_nat ByteArray.empty l i hlt
    have w := wr i (by omega)
    refine Ev.step (fun k => by rw [laws_short.l0, r, w]) ?_
    refine ev_pos (by omega) (ev_pos (by omega) (ev_pos (by omega) ?_))
    rw [List.drop_eq_getElem_cons hlt, List.all_cons]
    by_cases h : ((l[i].size : Int)) > 1500
    · refine ev_pos h ?_
      have e : decide (l[i].size ≤ 1500) = false := by rw [decide_eq_false_iff_not]; omega
      rw [e]
      exact Ev.now _
    · refine ev_neg h ?_
      have e : decide (l[i].size ≤ 1500) = true := by rw [decide_eq_true_eq]; omega
      rw [e, Bool.true_and]
      exact ih (i + 1) (by omega)
theorem short_ev (l : List ByteArray) (hl : l.length < 4611686018427387904) : Ev (fun k => laws_short.f k l) (shortB l) := short_loop l hl l.length 0 (by omega)
theorem short_sizes {l : List ByteArray} (h : shortB l = true) : ∀ s ∈ l, s.size ≤ 1500 := by
  unfold shortB at h
  rw [Bool.and_eq_true, List.all_eq_true] at h
  intro s hs
  simpa using h.1 s hs
theorem short_len {l : List ByteArray} (h : shortB l = true) : l.length ≤ 150 := by
  unfold shortB at h
  rw [Bool.and_eq_true] at h
  simpa using h.2
end Go.Proofs.YtffcbcihnoaikaaDoor.QO

namespace Go.Proofs.YtffcbcihnoaikaaDoor.QO
open Go.RowKit Go.Proofs.YtffcbcihnoaikaaDoorW.PrintWords Go.Proofs.YtffcbcihnoaikaaDoorW.PrintLast Go.Proofs.YtffcbcihnoaikaaDoor.Pk Go.Proofs.YtffcbcihnoaikaaDoor.Giv Go.Proofs.YtffcbcihnoaikaaDoor.Ord
set_option linter.unusedVariables false

theorem isDigit_f (c : UInt8) : spec_isDigit.f (c.toNat : Int) = some (Rpm.dig c) := by
  unfold spec_isDigit.f Rpm.dig
  by_cases h : (c.toNat : Int) ≥ 48
  · rw [if_pos h]
    congr 1
    rw [decide_eq_decide]
    omega
  · rw [if_neg h]
    congr 1
    rw [eq_comm, decide_eq_false_iff_not]
    omega
theorem allDigits_loop (s : ByteArray) (hs : s.size < 4611686018427387904) (d : Nat) : ∀ i : Nat, i + d = s.size → Ev (fun k => spec_allDigits.l0 k s (i : Int)) ((s.toList.drop i).all Rpm.dig && decide (s.size > 0)) := by
  induction d with
  | zero =>
    intro i hi
    refine Ev.step (fun k => by rw [spec_allDigits.l0]) ?_
    refine ev_neg (by omega) ?_
    rw [List.drop_of_length_le (by rw [len_toList]; omega), List.all_nil, Bool.true_and]
    have e : decide ((s.size : Int) > 0) = decide (s.size > 0) := by rw [decide_eq_decide]; omega
    rw [← e]
    exact Ev.now _
  | succ d ih =>
    intro i hi
    have hlt : i < s.size := by omega
    have w := wr i (by omega)
    refine Ev.step (fun k => by rw [spec_allDigits.l0, bt_nat s i hlt, w, isDigit_f]) ?_
    refine ev_pos (by omega) (ev_pos (by omega) (ev_some ?_))
    rw [drop_at s i hlt, List.all_cons]
    cases hd : Rpm.dig (s[i]'hlt) with
    | true => exact ev_pos rfl (ih (i + 1) (by omega))
    | false => exact ev_neg (by simp) (Ev.now _)
theorem allDigits_ev (s : ByteArray) (hs : s.size < 4611686018427387904) : Ev (fun k => spec_allDigits.f k s) (Num.digits s.toList) := by
  unfold spec_allDigits.f
  have := allDigits_loop s hs s.size 0 (by omega)
  have e : ((s.toList.drop 0).all Rpm.dig && decide (s.size > 0)) = Num.digits s.toList := by
    unfold Num.digits
    rw [List.drop_zero, Bool.and_comm]
    congr 1
    rw [Bool.eq_iff_iff, ← len_toList]
    simp [List.length_pos_iff]
  rw [← e]
  exact this
end Go.Proofs.YtffcbcihnoaikaaDoor.QO

namespace Go.Proofs.YtffcbcihnoaikaaDoor.QO
open Go.RowKit Go.Proofs.YtffcbcihnoaikaaDoorW.PrintWords Go.Proofs.YtffcbcihnoaikaaDoorW.PrintLast Go.Proofs.YtffcbcihnoaikaaDoor.Pk Go.Proofs.YtffcbcihnoaikaaDoor.Giv Go.Proofs.YtffcbcihnoaikaaDoor.Ord
set_option linter.unusedVariables false

theorem tail_eq (s : ByteArray) (h : 0 < s.size) : s.toList = s[0]'h :: (s.extract 1 s.size).toList := by
  rw [ext_all]
  have := drop_at s 0 h
  simpa using this
end Go.Proofs.YtffcbcihnoaikaaDoor.QO

namespace Go.Proofs.YtffcbcihnoaikaaDoor.QO
open Go.RowKit Go.Proofs.YtffcbcihnoaikaaDoorW.PrintWords Go.Proofs.YtffcbcihnoaikaaDoorW.PrintLast Go.Proofs.YtffcbcihnoaikaaDoor.Pk Go.Proofs.YtffcbcihnoaikaaDoor.Giv Go.Proofs.YtffcbcihnoaikaaDoor.Ord
set_option linter.unusedVariables false

theorem on_l1 (n : Nat) (a : ByteArray) (sa : List UInt8) (ha : Rpm.strip0 a.toList = a.toList) : ∀ b : ByteArray, b.size ≤ n → b.size < 4611686018427387904 → Ev (fun k => spec_orderNumbers.l1 k a b) (if cI a.size (Rpm.strip0 b.toList).length = 0 then cS a.toList (Rpm.strip0 b.toList) else cI a.size (Rpm.strip0 b.toList).length) := by
  have fin : ∀ b : ByteArray, Rpm.strip0 b.toList = b.toList → Ev (fun k => spec_orderNumbers.j3 k a b) (if cI a.size (Rpm.strip0 b.toList).length = 0 then cS a.toList (Rpm.strip0 b.toList) else cI a.size (Rpm.strip0 b.toList).length) := by
    intro b hb
    rw [hb, len_toList]
    refine Ev.step (fun k => by rw [spec_orderNumbers.j3]) ?_
    by_cases h : (a.size : Int) = (b.size : Int)
    · rw [if_pos (cI_zero.2 h)]
      exact ev_pos h (ev_some (Ev.now _))
    · rw [if_neg (fun e => h (cI_zero.1 e))]
      refine ev_neg h ?_
      unfold spec_orderInts.f cI
      by_cases h1 : (a.size : Int) < (b.size : Int)
      · rw [if_pos h1, if_pos h1]
        exact ev_some (Ev.now _)
      · rw [if_neg h1, if_pos (by omega), if_neg h1, if_pos (by omega)]
        exact ev_some (Ev.now _)
  induction n with
  | zero =>
    intro b hb _
    refine Ev.step (fun k => by rw [spec_orderNumbers.l1]) ?_
    refine ev_neg (by omega) (fin b ?_)
    have : b.toList = [] := List.length_eq_zero_iff.1 (by rw [len_toList]; omega)
    rw [this]
    rfl
  | succ n ih =>
    intro b hb hz
    refine Ev.step (fun k => by rw [spec_orderNumbers.l1]) ?_
    by_cases h : (b.size : Int) > 0
    · have h0 : 0 < b.size := by omega
      have et := tail_eq b h0
      refine ev_pos h (ev_pos (by omega) ?_)
      rw [bt_nat b 0 h0 |> (fun e => (e : bt b 0 = _))]
      by_cases c : ((b[0]'h0).toNat : Int) = 48
      · refine ev_pos c (ev_pos (by omega) ?_)
        have z := ih (b.extract 1 b.size) (by rw [ByteArray.size_extract]; omega) (by rw [ByteArray.size_extract]; omega)
        have e : Rpm.strip0 b.toList = Rpm.strip0 (b.extract 1 b.size).toList := by
          conv => lhs; rw [et]
          unfold Rpm.strip0
          rw [List.dropWhile_cons_of_pos (by simp; omega)]
        rw [e]
        exact z
      · refine ev_neg c (fin b ?_)
        conv => lhs; rw [et]
        unfold Rpm.strip0
        rw [List.dropWhile_cons_of_neg (by simp; omega)]
        exact et.symm
    · refine ev_neg h (fin b ?_)
      have : b.toList = [] := List.length_eq_zero_iff.1 (by rw [len_toList]; omega)
      rw [this]
      rfl
theorem on_l0 (n : Nat) (b : ByteArray) (hb : b.size < 4611686018427387904) : ∀ a : ByteArray, a.size ≤ n → a.size < 4611686018427387904 → Ev (fun k => spec_orderNumbers.l0 k a b) (Rpm.numC a.toList b.toList) := by
  have fin : ∀ a : ByteArray, Rpm.strip0 a.toList = a.toList → Ev (fun k => spec_orderNumbers.j1 k a b) (Rpm.numC a.toList b.toList) := by
    intro a ha
    refine Ev.step (fun k => by rw [spec_orderNumbers.j1]) ?_
    have := on_l1 b.size a [] ha b (Nat.le_refl _) hb
    unfold Rpm.numC
    rw [ha, len_toList]
    exact this
  induction n with
  | zero =>
    intro a ha _
    refine Ev.step (fun k => by rw [spec_orderNumbers.l0]) ?_
    refine ev_neg (by omega) (fin a ?_)
    have : a.toList = [] := List.length_eq_zero_iff.1 (by rw [len_toList]; omega)
    rw [this]
    rfl
  | succ n ih =>
    intro a ha hz
    refine Ev.step (fun k => by rw [spec_orderNumbers.l0]) ?_
    by_cases h : (a.size : Int) > 0
    · have h0 : 0 < a.size := by omega
      have et := tail_eq a h0
      refine ev_pos h (ev_pos (by omega) ?_)
      rw [bt_nat a 0 h0 |> (fun e => (e : bt a 0 = _))]
      by_cases c : ((a[0]'h0).toNat : Int) = 48
      · refine ev_pos c (ev_pos (by omega) ?_)
        have z := ih (a.extract 1 a.size) (by rw [ByteArray.size_extract]; omega) (by rw [ByteArray.size_extract]; omega)
        have e : Rpm.strip0 a.toList = Rpm.strip0 (a.extract 1 a.size).toList := by
          conv => lhs; rw [et]
          unfold Rpm.strip0
          rw [List.dropWhile_cons_of_pos (by simp; omega)]
        unfold Rpm.numC at z ⊢
        rw [e]
        exact z
      · refine ev_neg c (fin a ?_)
        conv => lhs; rw [et]
        unfold Rpm.strip0
        rw [List.dropWhile_cons_of_neg (by simp; omega)]
        exact et.symm
    · refine ev_neg h (fin a ?_)
      have : a.toList = [] := List.length_eq_zero_iff.1 (by rw [len_toList]; omega)
      rw [this]
      rfl
theorem orderNumbers_ev (a b : ByteArray) (ha : a.size < 4611686018427387904) (hb : b.size < 4611686018427387904) : Ev (fun k => spec_orderNumbers.f k a b) (Rpm.numC a.toList b.toList) := on_l0 a.size b hb a (Nat.le_refl _) ha
end Go.Proofs.YtffcbcihnoaikaaDoor.QO

namespace Go.Proofs.YtffcbcihnoaikaaDoor.QO
open Go.RowKit Go.Proofs.YtffcbcihnoaikaaDoorW.PrintWords Go.Proofs.YtffcbcihnoaikaaDoorW.PrintLast Go.Proofs.YtffcbcihnoaikaaDoor.Pk Go.Proofs.YtffcbcihnoaikaaDoor.Giv
set_option linter.unusedVariables false

def ascB (s : ByteArray) : Bool := s.toList.all (fun c => decide (c.toNat < 128))
theorem ascii_loop (s : ByteArray) (hs : s.size < 4611686018427387904) (d : Nat) : ∀ i : Nat, i + d = s.size → Ev (fun k => spec_Ascii.l0 k s (i : Int)) ((s.toList.drop i).all (fun c => decide (c.toNat < 128))) := by
  induction d with
  | zero =>
    intro i hi
    refine Ev.step (fun k => by rw [spec_Ascii.l0]) ?_
    refine ev_neg (by omega) ?_
    rw [List.drop_of_length_le (by rw [len_toList]; omega)]
    exact Ev.now _
  | succ d ih =>
    intro i hi
    have hlt : i < s.size := by omega
    have b := bt_nat s i hlt
    have w := wr i (by omega)
    refine Ev.step (fun k => by rw [spec_Ascii.l0, b, w]) ?_
    refine ev_pos (by omega) (ev_pos (by omega) ?_)
    rw [drop_at s i hlt, List.all_cons]
    by_cases h : (((s[i]'hlt).toNat : Int)) > 127
    · refine ev_pos h ?_
      rw [show decide ((s[i]'hlt).toNat < 128) = false by rw [decide_eq_false_iff_not]; omega]
      exact Ev.now _
    · refine ev_neg h ?_
      rw [show decide ((s[i]'hlt).toNat < 128) = true by rw [decide_eq_true_eq]; omega, Bool.true_and]
      exact ih (i + 1) (by omega)
theorem ascii_ev (s : ByteArray) (hs : s.size < 4611686018427387904) : Ev (fun k => spec_Ascii.f k s) (ascB s) := ascii_loop s hs s.size 0 (by omega)
end Go.Proofs.YtffcbcihnoaikaaDoor.QO

namespace Go.Proofs.YtffcbcihnoaikaaDoor.QO
open Go.RowKit Go.Proofs.YtffcbcihnoaikaaDoorW.PrintWords Go.Proofs.YtffcbcihnoaikaaDoorW.PrintLast Go.Proofs.YtffcbcihnoaikaaDoor.Pk Go.Proofs.YtffcbcihnoaikaaDoor.Giv
set_option linter.unusedVariables false

theorem indexOf_loop (s : ByteArray) (c : UInt8) (hs : s.size < 4611686018427387904) (d : Nat) : ∀ i : Nat, i + d = s.size → (s.toList.take i).any (fun x => x == c) = false → Ev (fun k => spec_indexOf.l0 k s (c.toNat : Int) (i : Int)) (placeOf (fun x => x == c) s.toList) := by
  induction d with
  | zero =>
    intro i hi hno
    refine Ev.step (fun k => by rw [spec_indexOf.l0]) ?_
    refine ev_neg (by omega) ?_
    rw [List.take_of_length_le (by rw [len_toList]; omega)] at hno
    have e : placeOf (fun x => x == c) s.toList = -1 := by
      unfold placeOf
      rw [hno]
      rfl
    rw [e]
    exact Ev.now _
  | succ d ih =>
    intro i hi hno
    have hlt : i < s.size := by omega
    have b := bt_nat s i hlt
    have w := wr i (by omega)
    refine Ev.step (fun k => by rw [spec_indexOf.l0, b, w]) ?_
    refine ev_pos (by omega) (ev_pos (by omega) ?_)
    by_cases h : (s[i]'hlt) = c
    · refine ev_pos (by rw [h]) ?_
      rw [placeOf_step _ s.toList i (by rw [len_toList]; exact hlt) hno (by rw [getElem_toList s i hlt, h]; simp)]
      exact Ev.now _
    · refine ev_neg (fun e => h (UInt8.toNat_inj.1 (by omega))) ?_
      refine ih (i + 1) (by omega) ?_
      rw [take_next' s i hlt, List.any_append, hno]
      simpa using h
theorem indexOf_ev (s : ByteArray) (c : UInt8) (hs : s.size < 4611686018427387904) : Ev (fun k => spec_indexOf.f k s (c.toNat : Int)) (placeOf (fun x => x == c) s.toList) := indexOf_loop s c hs s.size 0 (by omega) (by simp)
end Go.Proofs.YtffcbcihnoaikaaDoor.QO

namespace Go.Proofs.YtffcbcihnoaikaaDoor.QO
open Go.RowKit Go.Proofs.YtffcbcihnoaikaaDoorW.PrintWords Go.Proofs.YtffcbcihnoaikaaDoorW.PrintLast Go.Proofs.YtffcbcihnoaikaaDoor.Pk Go.Proofs.YtffcbcihnoaikaaDoor.Giv Go.Proofs.YtffcbcihnoaikaaDoor.Ord
set_option linter.unusedVariables false
set_option linter.unusedSimpArgs false

/-- A blank. -/
abbrev blk (c : UInt8) : Bool := Deb.sp c
theorem debBlank_f (c : UInt8) : spec_debBlank.f (c.toNat : Int) = some (blk c) := by
  unfold spec_debBlank.f blk Deb.sp
  by_cases h : (c.toNat : Int) = 32
  · rw [if_pos h, decide_eq_true (by omega)]
  · rw [if_neg h]
    by_cases h2 : (c.toNat : Int) ≥ 9
    · rw [if_pos h2]
      congr 1
      rw [decide_eq_decide]
      omega
    · rw [if_neg h2]
      congr 1
      rw [eq_comm, decide_eq_false_iff_not]
      omega
/-- A text without blanks at its end. -/
def rdw (l : List UInt8) : List UInt8 := (l.reverse.dropWhile blk).reverse
theorem rdw_snoc (r : List UInt8) (c : UInt8) : rdw (r ++ [c]) = if blk c = true then rdw r else r ++ [c] := by
  unfold rdw
  rw [List.reverse_append, List.reverse_cons, List.reverse_nil, List.nil_append, List.singleton_append]
  cases h : blk c with
  | true => rw [List.dropWhile_cons_of_pos h]; rfl
  | false => rw [List.dropWhile_cons_of_neg (by simp [h])]; simp
/-- A text without blanks around. -/
def dtrim (l : List UInt8) : List UInt8 := rdw (l.dropWhile blk)
theorem dtrim_dtr (l : List UInt8) : dtrim l = Deb.dtr l := rfl
theorem trim_l1 (n : Nat) : ∀ l : List UInt8, l.length = n → l.length < 4611686018427387904 → Ev (fun k => spec_debTrim.l1 k (bs l)) (bs (rdw l)) := by
  induction n with
  | zero =>
    intro l hl _
    obtain rfl := List.length_eq_zero_iff.1 hl
    refine Ev.step (fun k => by rw [spec_debTrim.l1, bs_size]) ?_
    refine ev_neg (by simp) ?_
    exact Ev.now _
  | succ n ih =>
    intro l hl hb
    have hne : l ≠ [] := fun e => by rw [e] at hl; simp at hl
    obtain ⟨r, c, rfl⟩ : ∃ r c, l = r ++ [c] := ⟨l.dropLast, l.getLast hne, (List.dropLast_concat_getLast hne).symm⟩
    have hr : r.length = n := by rw [List.length_append, List.length_singleton] at hl; omega
    have w : wrap64 (((r ++ [c]).length : Int) - 1) = (n : Int) := by rw [hl]; unfold wrap64; rw [hl] at hb; omega
    have b : bt (bs (r ++ [c])) (n : Int) = (c.toNat : Int) := by
      have := bs_bt (r ++ [c]) n (by omega)
      rw [this, List.getElem_append_right (by omega)]
      simp [hr]
    refine Ev.step (fun k => by rw [spec_debTrim.l1, bs_size, w, b, debBlank_f]) ?_
    rw [hl]
    refine ev_pos (by omega) (ev_pos (by omega) (ev_pos (by omega) (ev_some ?_)))
    rw [rdw_snoc]
    cases h : blk c with
    | true =>
      refine ev_pos rfl (ev_pos (by omega) ?_)
      rw [Int.toNat_natCast, bs_extHead, List.take_left' hr, if_pos rfl]
      exact ih r hr (by omega)
    | false =>
      rw [if_neg (by simp)]
      exact ev_neg (by simp) (Ev.now _)
theorem trim_l0 (l : List UInt8) : l.length < 4611686018427387904 → Ev (fun k => spec_debTrim.l0 k (bs l)) (bs (dtrim l)) := by
  have fin : ∀ l : List UInt8, l.length < 4611686018427387904 → Ev (fun k => spec_debTrim.j1 k (bs l)) (bs (rdw l)) := fun l hl => by
    refine Ev.step (fun k => by rw [spec_debTrim.j1]) ?_
    exact trim_l1 l.length l rfl hl
  induction l with
  | nil =>
    intro hl
    refine Ev.step (fun k => by rw [spec_debTrim.l0, bs_size]) ?_
    exact ev_neg (by simp) (fin [] hl)
  | cons c r ih =>
    intro hl
    have hr : r.length < 4611686018427387904 := by rw [List.length_cons] at hl; omega
    refine Ev.step (fun k => by rw [spec_debTrim.l0, bs_bt0, debBlank_f, bs_tail, bs_size]) ?_
    refine ev_pos (by rw [List.length_cons]; omega) (ev_pos (by rw [List.length_cons]; omega) (ev_some ?_))
    unfold dtrim
    cases h : blk c with
    | true =>
      rw [List.dropWhile_cons_of_pos h]
      exact ev_pos rfl (ev_pos (by rw [List.length_cons]; omega) (ih hr))
    | false =>
      rw [List.dropWhile_cons_of_neg (by simp [h])]
      exact ev_neg (by simp) (fin (c :: r) hl)
theorem debTrim_ev (l : List UInt8) (hl : l.length < 4611686018427387904) : Ev (fun k => spec_debTrim.f k (bs l)) (bs (dtrim l)) := trim_l0 l hl
theorem rdw_len (l : List UInt8) : (rdw l).length ≤ l.length := by
  unfold rdw
  rw [List.length_reverse]
  exact Nat.le_trans (List.dropWhile_sublist _).length_le (by rw [List.length_reverse]; exact Nat.le_refl _)
theorem dtrim_len (l : List UInt8) : (dtrim l).length ≤ l.length := Nat.le_trans (rdw_len _) (List.dropWhile_sublist _).length_le
theorem place_ge (p : UInt8 → Bool) (l : List UInt8) : decide (placeOf p l ≥ 0) = l.any p := by
  unfold placeOf
  cases h : l.any p with
  | true => rw [if_pos rfl]; simp
  | false => rw [if_neg (by simp)]; rfl
theorem place_lt (p : UInt8 → Bool) (l : List UInt8) : placeOf p l < 0 ↔ l.any p = false := by
  unfold placeOf
  cases h : l.any p with
  | true => rw [if_pos rfl]; simp
  | false => rw [if_neg (by simp)]; simp
/-- A sign ahead of an epoch. -/
def sgn (t : List UInt8) : Bool := (t.head? == some 43 || t.head? == some 45) && t.any (fun x => x == 58)
/-- A text of which it is said what it means. -/
def knownB (l : List UInt8) : Bool := l.all (fun c => decide (c.toNat < 128)) && !(l.any fun c => c == 0) && !sgn (dtrim l)
theorem knownB_okB {l : List UInt8} (h : knownB l = true) (hl : l.length ≤ 40000) : okB l = true := by
  unfold knownB at h
  rw [Bool.and_eq_true, Bool.and_eq_true] at h
  obtain ⟨⟨h1, h2⟩, _⟩ := h
  rw [List.all_eq_true] at h1
  rw [Bool.not_eq_true', List.any_eq_false] at h2
  unfold okB
  rw [Bool.and_eq_true, List.all_eq_true]
  refine ⟨decide_eq_true hl, fun c hc => decide_eq_true ⟨of_decide_eq_true (h1 c hc), fun e => h2 c hc ?_⟩⟩
  rw [beq_iff_eq]
  exact UInt8.toNat_inj.1 e
theorem known_ev (l : List UInt8) (hl : l.length < 4611686018427387904) : Ev (fun k => spec_DebianKnown.f k (bs l)) (knownB l) := by
  have hs : (bs l).size < 4611686018427387904 := by rw [bs_size]; exact hl
  have az := ascii_ev (bs l) hs
  have iz := indexOf_ev (bs l) 0 hs
  rw [bs_toList] at iz
  have ea : QO.ascB (bs l) = l.all (fun c => decide (c.toNat < 128)) := by unfold QO.ascB; rw [bs_toList]
  rw [ea] at az
  have fin : ∀ sg : Bool, sg = sgn (dtrim l) → Ev (fun k => (spec_Ascii.f k (bs l)).bind fun t => if t = true then ((spec_indexOf.f k (bs l) 0).bind fun i => (if i < 0 then some (!sg) else some false)) else some false) (knownB l) := by
    intro sg e
    refine az.bind ?_
    unfold knownB
    rw [← e]
    cases h1 : l.all (fun c => decide (c.toNat < 128)) with
    | false => exact ev_neg (by simp) (by simpa using Ev.now false)
    | true =>
      refine ev_pos rfl (iz.bind ?_)
      cases h2 : l.any (fun c => c == 0) with
      | true => exact ev_neg (fun e => by rw [place_lt, h2] at e; exact absurd e (by simp)) (by simpa using Ev.now false)
      | false => exact ev_pos ((place_lt _ _).2 h2) (by simpa using Ev.now (!sg))
  unfold spec_DebianKnown.f
  refine (debTrim_ev l hl).bind ?_
  have tl := dtrim_len l
  cases ht : dtrim l with
  | nil =>
    rw [bs_size]
    refine ev_neg (by simp) ?_
    exact fin false (by rw [ht]; rfl)
  | cons c r =>
    rw [ht, List.length_cons] at tl
    have ix := indexOf_ev (bs (c :: r)) 58 (by rw [bs_size, List.length_cons]; omega)
    rw [bs_toList] at ix
    rw [bs_size, bs_bt0]
    refine ev_pos (by rw [List.length_cons]; omega) (ev_pos (by rw [List.length_cons]; omega) ?_)
    by_cases h1 : (c.toNat : Int) = 43
    · have hc : c = 43 := UInt8.toNat_inj.1 (by show c.toNat = 43; omega)
      refine ev_pos h1 (ix.bind ?_)
      rw [place_ge]
      exact fin _ (by rw [ht]; unfold sgn; rw [hc]; rfl)
    · refine ev_neg h1 ?_
      by_cases h2 : (c.toNat : Int) = 45
      · have hc : c = 45 := UInt8.toNat_inj.1 (by show c.toNat = 45; omega)
        refine ev_pos h2 (ix.bind ?_)
        rw [place_ge]
        exact fin _ (by rw [ht]; unfold sgn; rw [hc]; rfl)
      · refine ev_neg h2 ?_
        refine fin false ?_
        rw [ht]
        unfold sgn
        have n1 : ((c :: r).head? == some (43 : UInt8)) = false := beq_eq_false_iff_ne.2 (fun e => h1 (by injection e with e; rw [e]; rfl))
        have n2 : ((c :: r).head? == some (45 : UInt8)) = false := beq_eq_false_iff_ne.2 (fun e => h2 (by injection e with e; rw [e]; rfl))
        rw [n1, n2]
        rfl
end Go.Proofs.YtffcbcihnoaikaaDoor.QO

namespace Go.Proofs.YtffcbcihnoaikaaDoor.QO
open Go.RowKit Go.Proofs.YtffcbcihnoaikaaDoorW.PrintWords Go.Proofs.YtffcbcihnoaikaaDoorW.PrintLast Go.Proofs.YtffcbcihnoaikaaDoor.Pk Go.Proofs.YtffcbcihnoaikaaDoor.Giv Go.Proofs.YtffcbcihnoaikaaDoor.Ord
set_option linter.unusedVariables false
set_option linter.unusedSimpArgs false

theorem dOrderInts_f (a b : Int) : spec_orderInts.f a b = some (cI a b) := by
  unfold spec_orderInts.f cI
  by_cases h : a < b
  · rw [if_pos h, if_pos h]
  · rw [if_neg h, if_neg h]
    by_cases h2 : b < a
    · rw [if_pos h2, if_pos h2]
    · rw [if_neg h2, if_neg h2]
theorem isLet_f (c : UInt8) : spec_isLetter.f (c.toNat : Int) = some (Deb.isLet c) := by
  unfold spec_isLetter.f Deb.isLet
  by_cases h1 : (c.toNat : Int) ≥ 97
  · rw [if_pos h1]
    by_cases h2 : (c.toNat : Int) ≤ 122
    · rw [if_pos h2]
      congr 1
      rw [eq_comm, decide_eq_true_iff]
      omega
    · rw [if_neg h2, if_pos (by omega)]
      congr 1
      rw [decide_eq_decide]
      omega
  · rw [if_neg h1]
    by_cases h2 : (c.toNat : Int) ≥ 65
    · rw [if_pos h2]
      congr 1
      rw [decide_eq_decide]
      omega
    · rw [if_neg h2]
      congr 1
      rw [eq_comm, decide_eq_false_iff_not]
      omega
/-- The weight of a byte of a part without digits. -/
def dwB (c : UInt8) : Int := if Rpm.dig c = true then 0 else Deb.wtB c
def dw : Option UInt8 → Int
  | none => 0
  | some c => dwB c
theorem debWeight_ev (l : List UInt8) (i : Nat) : Ev (fun k => spec_debWeight.f k (bs l) (i : Int)) (dw l[i]?) := by
  unfold spec_debWeight.f
  have z : Ev (fun k => spec_debWeight.j0 k (bs l) (i : Int) true) 0 := by
    refine Ev.step (fun k => by rw [spec_debWeight.j0]) ?_
    exact ev_pos rfl (Ev.now _)
  rw [bs_size]
  by_cases h : i < l.length
  · rw [List.getElem?_eq_getElem h]
    have b := bs_bt l i h
    obtain ⟨c, ec⟩ : ∃ c, c = l[i]'h := ⟨_, rfl⟩
    rw [← ec] at b ⊢
    rw [b, isDigit_f]
    refine ev_neg (by omega) (ev_pos (by omega) (ev_pos (by omega) (ev_some ?_)))
    show Ev (fun k => spec_debWeight.j0 k (bs l) (i : Int) (Rpm.dig c)) (dwB c)
    unfold dwB
    cases hd : Rpm.dig c with
    | true => rw [if_pos rfl]; exact z
    | false =>
      rw [if_neg (by simp)]
      have w1 : wrap64 (c.toNat : Int) = (c.toNat : Int) := by unfold wrap64; have := c.toNat_lt; omega
      have w2 : wrap64 ((c.toNat : Int) + 256) = (c.toNat : Int) + 256 := by unfold wrap64; have := c.toNat_lt; omega
      refine Ev.step (fun k => by rw [spec_debWeight.j0, b, isLet_f, bs_size, w1, w2]) ?_
      refine ev_neg (by simp) (ev_pos (by omega) (ev_pos (by omega) ?_))
      unfold Deb.wtB
      by_cases h1 : c.toNat = 126
      · rw [if_pos h1]
        exact ev_pos (by omega) (Ev.now _)
      · rw [if_neg h1]
        refine ev_neg (by omega) (ev_some ?_)
        show Ev (fun _ => if Deb.isLet c = true then some (c.toNat : Int) else some ((c.toNat : Int) + 256)) _
        cases hl : Deb.isLet c with
        | true => exact Ev.now (c.toNat : Int)
        | false => exact Ev.now ((c.toNat : Int) + 256)
  · rw [List.getElem?_eq_none (by omega)]
    exact ev_pos (by omega) z
theorem debRun_loop (l : List UInt8) (hl : l.length < 4611686018427387904) (d : Nat) : ∀ i : Nat, i + d = l.length → Ev (fun k => spec_debRun.l0 k (bs l) (i : Int)) ((i : Int) + (((l.drop i).takeWhile Rpm.dig).length : Int)) := by
  induction d with
  | zero =>
    intro i hi
    refine Ev.step (fun k => by rw [spec_debRun.l0, bs_size]) ?_
    rw [List.drop_of_length_le (by omega), List.takeWhile_nil, List.length_nil, Int.natCast_zero, Int.add_zero]
    exact ev_neg (by omega) (Ev.now _)
  | succ d ih =>
    intro i hi
    have hlt : i < l.length := by omega
    have w := wr i (by omega)
    have nx := ih (i + 1) (by omega)
    refine Ev.step (fun k => by rw [spec_debRun.l0, bs_size, bs_bt l i hlt, isDigit_f, w]) ?_
    refine ev_pos (by omega) (ev_pos (by omega) (ev_some ?_))
    rw [List.drop_eq_getElem_cons hlt]
    cases hd : Rpm.dig (l[i]'hlt) with
    | true =>
      refine ev_pos rfl ?_
      rw [List.takeWhile_cons_of_pos hd, List.length_cons]
      have e : (i : Int) + ((((l.drop (i + 1)).takeWhile Rpm.dig).length + 1 : Nat) : Int) = ((i + 1 : Nat) : Int) + (((l.drop (i + 1)).takeWhile Rpm.dig).length : Int) := by omega
      rw [e]
      exact nx
    | false =>
      rw [List.takeWhile_cons_of_neg (by simp [hd]), List.length_nil, Int.natCast_zero, Int.add_zero]
      exact ev_neg (by simp) (Ev.now _)
theorem debRun_ev (l : List UInt8) (hl : l.length < 4611686018427387904) : Ev (fun k => spec_debRun.f k (bs l)) ((l.takeWhile Rpm.dig).length : Int) := by
  have := debRun_loop l hl l.length 0 (by omega)
  rw [List.drop_zero, Int.natCast_zero, Int.zero_add] at this
  exact this
theorem nd_no {c : UInt8} (h : Rpm.dig c = false) (r : List UInt8) : Deb.nd (c :: r) = c :: Deb.nd r ∧ Deb.nr (c :: r) = Deb.nr r := by
  unfold Deb.nd Deb.nr
  rw [List.takeWhile_cons_of_pos (by simp [h]), List.dropWhile_cons_of_pos (by simp [h])]
  exact ⟨rfl, rfl⟩
theorem nd_yes {c : UInt8} (h : Rpm.dig c = true) (r : List UInt8) : Deb.nd (c :: r) = [] ∧ Deb.nr (c :: r) = c :: r := by
  unfold Deb.nd Deb.nr
  rw [List.takeWhile_cons_of_neg (by simp [h]), List.dropWhile_cons_of_neg (by simp [h])]
  exact ⟨rfl, rfl⟩
/-- A byte ahead that is no digit: its weight is that of what stands ahead of digits. -/
theorem dw_head (l : List UInt8) : dw l.head? = Deb.wt (Deb.nd l).head? := by
  cases l with
  | nil => rfl
  | cons c r =>
    cases h : Rpm.dig c with
    | true =>
      rw [(nd_yes h r).1]
      show dwB c = 0
      unfold dwB
      rw [if_pos h]
    | false =>
      rw [(nd_no h r).1]
      show dwB c = Deb.wtB c
      unfold dwB
      rw [if_neg (by simp [h])]
/-- No digit ahead. -/
def nn (l : List UInt8) : Bool := match l with
  | [] => false
  | c :: _ => !Rpm.dig c
theorem nn_false {l : List UInt8} (h : nn l = false) : Deb.nd l = [] ∧ Deb.nr l = l := by
  cases l with
  | nil => exact ⟨rfl, rfl⟩
  | cons c r => exact nd_yes (by simpa [nn] using h) r
theorem same_head {x y : List UInt8} (hn : nn x = true ∨ nn y = true) (h : Deb.wC (Deb.nd x).head? (Deb.nd y).head? = 0) : ∃ c x' y', Rpm.dig c = false ∧ x = c :: x' ∧ y = c :: y' := by
  have e := Deb.wt_inj (cI_zero.1 h)
  have key : ∀ {u v : List UInt8}, nn u = true → (Deb.nd u).head? = (Deb.nd v).head? → ∃ c x' y', Rpm.dig c = false ∧ u = c :: x' ∧ v = c :: y' := by
    intro u v hu e
    cases u with
    | nil => simp [nn] at hu
    | cons c r =>
      have hc : Rpm.dig c = false := by simpa [nn] using hu
      rw [(nd_no hc r).1] at e
      cases v with
      | nil => exact absurd e (by simp [Deb.nd])
      | cons d q =>
        cases hd : Rpm.dig d with
        | true => rw [(nd_yes hd q).1] at e; exact absurd e (by simp)
        | false =>
          rw [(nd_no hd q).1] at e
          have : c = d := by simpa using e
          subst this
          exact ⟨c, r, q, hc, rfl, rfl⟩
  rcases hn with hn | hn
  · exact key hn e
  · obtain ⟨c, x', y', hc, e1, e2⟩ := key hn e.symm
    exact ⟨c, y', x', hc, e2, e1⟩
theorem deb_same {c : UInt8} (h : Rpm.dig c = false) (x y : List UInt8) : Deb.debC (c :: x) (c :: y) = Deb.debC x y := by
  rw [Deb.debC_step, Deb.debC_step x y]
  have e : Deb.ndC (Deb.nd (c :: x)) (Deb.nd (c :: y)) = Deb.ndC (Deb.nd x) (Deb.nd y) := by
    rw [(nd_no h x).1, (nd_no h y).1, Deb.ndC_step]
    have z : Deb.wC (c :: Deb.nd x).head? (c :: Deb.nd y).head? = 0 := Deb.wC_cmp.self _
    rw [if_pos z]
    rfl
  have d : ∀ l : List UInt8, Deb.dg (c :: l) = Deb.dg l ∧ Deb.rest (c :: l) = Deb.rest l := fun l => by
    unfold Deb.dg Deb.rest
    rw [(nd_no h l).2]
    exact ⟨rfl, rfl⟩
  rw [e, (d x).1, (d x).2, (d y).1, (d y).2]
theorem deb_diff {x y : List UInt8} (h : ¬ Deb.wC (Deb.nd x).head? (Deb.nd y).head? = 0) : Deb.debC x y = Deb.wC (Deb.nd x).head? (Deb.nd y).head? := by
  have e : Deb.ndC (Deb.nd x) (Deb.nd y) = Deb.wC (Deb.nd x).head? (Deb.nd y).head? := by rw [Deb.ndC_step, if_neg h]
  rw [Deb.debC_step, e, if_neg h]
theorem deb_num {x y : List UInt8} (hx : nn x = false) (hy : nn y = false) : Deb.debC x y = if cI (Num.dec (x.takeWhile Rpm.dig)) (Num.dec (y.takeWhile Rpm.dig)) = 0 then Deb.debC (x.dropWhile Rpm.dig) (y.dropWhile Rpm.dig) else cI (Num.dec (x.takeWhile Rpm.dig)) (Num.dec (y.takeWhile Rpm.dig)) := by
  have ax := nn_false hx
  have ay := nn_false hy
  rw [Deb.debC_step, ax.1, ay.1, if_pos Deb.ndC_nil]
  unfold Deb.dg Deb.rest
  rw [ax.2, ay.2]
theorem len_tw (l : List UInt8) : (l.takeWhile Rpm.dig).length + (l.dropWhile Rpm.dig).length = l.length := by
  rw [← List.length_append, List.takeWhile_append_dropWhile]
/-- The inner loop: what stands ahead of digits. -/
theorem debParts_in (a b : List UInt8) (ha : a.length < 4611686018427387904) (hb : b.length < 4611686018427387904) (h0 : 0 < a.length + b.length) (ih : ∀ u v : List UInt8, u.length + v.length < a.length + b.length → u.length < 4611686018427387904 → v.length < 4611686018427387904 → Ev (fun k => spec_debParts.l0 k (bs u) (bs v)) (Deb.debC u v)) (d : Nat) : ∀ i : Nat, i ≤ a.length → i ≤ b.length → i + d = a.length → Ev (fun k => spec_debParts.l1 k (bs a) (bs b) (i : Int)) (Deb.debC (a.drop i) (b.drop i)) := by
  have fin : ∀ i : Nat, i ≤ a.length → i ≤ b.length → nn (a.drop i) = false → nn (b.drop i) = false → Ev (fun k => spec_debParts.j3 k (bs a) (bs b) (i : Int) false) (Deb.debC (a.drop i) (b.drop i)) := by
    intro i hia hib hx hy
    have ea : (bs a).extract ((i : Int)).toNat (bs a).size = bs (a.drop i) := by rw [Int.toNat_natCast, bs_extAll]
    have eb : (bs b).extract ((i : Int)).toNat (bs b).size = bs (b.drop i) := by rw [Int.toNat_natCast, bs_extAll]
    have sa : (bs a).size - ((i : Int)).toNat = (bs (a.drop i)).size := by rw [Int.toNat_natCast, bs_size, bs_size, List.length_drop]
    have sb : (bs b).size - ((i : Int)).toNat = (bs (b.drop i)).size := by rw [Int.toNat_natCast, bs_size, bs_size, List.length_drop]
    have la : (a.drop i).length ≤ a.length := by rw [List.length_drop]; omega
    have lb : (b.drop i).length ≤ b.length := by rw [List.length_drop]; omega
    have lsum : a.drop i = [] → b.drop i = [] → 0 < i := fun e1 e2 => by
      have h1 := congrArg List.length e1
      have h2 := congrArg List.length e2
      rw [List.length_drop, List.length_nil] at h1 h2
      omega
    have lda : (a.drop i).length + i = a.length := by rw [List.length_drop]; omega
    have ldb : (b.drop i).length + i = b.length := by rw [List.length_drop]; omega
    refine Ev.step (fun k => by rw [spec_debParts.j3, ea, eb, sa, sb]) ?_
    rw [bs_size, bs_size]
    generalize a.drop i = x at *
    generalize b.drop i = y at *
    refine ev_neg (by simp) (ev_pos (by omega) (ev_pos (by omega) (ev_pos (by omega) ((debRun_ev x (by omega)).bind ((debRun_ev y (by omega)).bind ?_)))))
    have tx := tw_le Rpm.dig x
    have ty := tw_le Rpm.dig y
    rw [bs_size, bs_size]
    refine ev_pos (by omega) (ev_pos (by omega) (ev_pos (by omega) (ev_pos (by omega) ?_)))
    have on := orderNumbers_ev (bs (x.takeWhile Rpm.dig)) (bs (y.takeWhile Rpm.dig)) (by rw [bs_size]; omega) (by rw [bs_size]; omega)
    rw [bs_toList, bs_toList, Seg.numC_dec List.all_takeWhile List.all_takeWhile] at on
    rw [Int.toNat_natCast, Int.toNat_natCast, bs_extHead, bs_extHead, take_tw, take_tw]
    refine on.bind ?_
    rw [deb_num hx hy]
    by_cases hz : cI (Num.dec (x.takeWhile Rpm.dig)) (Num.dec (y.takeWhile Rpm.dig)) = 0
    · rw [if_pos hz]
      refine ev_pos hz ?_
      have e1 : (bs x).extract (x.takeWhile Rpm.dig).length x.length = bs (x.dropWhile Rpm.dig) := by
        have := bs_extAll x (x.takeWhile Rpm.dig).length
        rw [bs_size] at this
        rw [this, drop_tw]
      have e2 : (bs y).extract (y.takeWhile Rpm.dig).length y.length = bs (y.dropWhile Rpm.dig) := by
        have := bs_extAll y (y.takeWhile Rpm.dig).length
        rw [bs_size] at this
        rw [this, drop_tw]
      rw [e1, e2]
      have dx := len_tw x
      have dy := len_tw y
      refine ih _ _ ?_ (by omega) (by omega)
      by_cases hxe : x = []
      · by_cases hye : y = []
        · have := lsum hxe hye
          omega
        · have : 0 < (y.takeWhile Rpm.dig).length := by
            cases y with
            | nil => exact absurd rfl hye
            | cons c r =>
              rw [List.takeWhile_cons_of_pos (by simpa [nn] using hy)]
              simp
          omega
      · have : 0 < (x.takeWhile Rpm.dig).length := by
          cases x with
          | nil => exact absurd rfl hxe
          | cons c r =>
            rw [List.takeWhile_cons_of_pos (by simpa [nn] using hx)]
            simp
        omega
    · rw [if_neg hz]
      exact ev_neg hz (Ev.now _)
  have hd : ∀ (l : List UInt8) (i : Nat), l[i]? = (l.drop i).head? := fun l i => by rw [List.head?_drop]
  have more : ∀ i : Nat, i ≤ a.length → i ≤ b.length → (nn (a.drop i) = true ∨ nn (b.drop i) = true) → (i + 1 ≤ a.length → i + 1 ≤ b.length → Ev (fun k => spec_debParts.l1 k (bs a) (bs b) ((i + 1 : Nat) : Int)) (Deb.debC (a.drop (i + 1)) (b.drop (i + 1)))) → Ev (fun k => spec_debParts.j3 k (bs a) (bs b) (i : Int) true) (Deb.debC (a.drop i) (b.drop i)) := by
    intro i hia hib hn nx
    have w := wr i (by omega)
    have wa := debWeight_ev a i
    have wb := debWeight_ev b i
    rw [hd, dw_head] at wa wb
    refine Ev.step (fun k => by rw [spec_debParts.j3, w]) ?_
    refine ev_pos rfl (wa.bind (wb.bind ?_))
    rw [dOrderInts_f]
    refine ev_some ?_
    show Ev (fun k => if Deb.wC (Deb.nd (a.drop i)).head? (Deb.nd (b.drop i)).head? = 0 then spec_debParts.l1 k (bs a) (bs b) ((i + 1 : Nat) : Int) else some (Deb.wC (Deb.nd (a.drop i)).head? (Deb.nd (b.drop i)).head?)) _
    by_cases hz : Deb.wC (Deb.nd (a.drop i)).head? (Deb.nd (b.drop i)).head? = 0
    · refine ev_pos hz ?_
      obtain ⟨c, x', y', hc, e1, e2⟩ := same_head hn hz
      have l1 := congrArg List.length e1
      have l2 := congrArg List.length e2
      rw [List.length_drop, List.length_cons] at l1 l2
      have t1 : a.drop (i + 1) = x' := by rw [← List.drop_drop, e1]; rfl
      have t2 : b.drop (i + 1) = y' := by rw [← List.drop_drop, e2]; rfl
      have := nx (by omega) (by omega)
      rw [e1, e2, deb_same hc, ← t1, ← t2]
      exact this
    · rw [deb_diff hz]
      exact ev_neg hz (Ev.now _)
  have nnat : ∀ (l : List UInt8) (i : Nat) (h : i < l.length), nn (l.drop i) = !Rpm.dig (l[i]'h) := fun l i h => by
    rw [List.drop_eq_getElem_cons h]
    rfl
  have nnend : ∀ (l : List UInt8) (i : Nat), ¬ i < l.length → nn (l.drop i) = false := fun l i h => by
    rw [List.drop_of_length_le (by omega)]
    rfl
  induction d with
  | zero =>
    intro i hia hib hid
    refine Ev.step (fun k => by rw [spec_debParts.l1, bs_size, bs_size]) ?_
    refine ev_neg (by omega) ?_
    have hx := nnend a i (by omega)
    by_cases hlb : i < b.length
    · rw [bs_bt b i hlb, isDigit_f]
      refine ev_pos (by omega) (ev_pos (by omega) (ev_some ?_))
      rw [← nnat b i hlb]
      cases hy : nn (b.drop i) with
      | true => exact more i hia hib (.inr hy) (fun h _ => absurd h (by omega))
      | false => exact fin i hia hib hx hy
    · exact ev_neg (by omega) (fin i hia hib hx (nnend b i hlb))
  | succ d ihd =>
    intro i hia hib hid
    have hla : i < a.length := by omega
    refine Ev.step (fun k => by rw [spec_debParts.l1, bs_size, bs_size, bs_bt a i hla, isDigit_f]) ?_
    refine ev_pos (by omega) (ev_pos (by omega) (ev_some ?_))
    have nx : i + 1 ≤ a.length → i + 1 ≤ b.length → Ev (fun k => spec_debParts.l1 k (bs a) (bs b) ((i + 1 : Nat) : Int)) (Deb.debC (a.drop (i + 1)) (b.drop (i + 1))) := fun h1 h2 => ihd (i + 1) h1 h2 (by omega)
    have na := nnat a i hla
    cases hda : Rpm.dig (a[i]'hla) with
    | true =>
      rw [hda] at na
      have hx : nn (a.drop i) = false := na
      refine ev_pos rfl ?_
      by_cases hlb : i < b.length
      · rw [bs_bt b i hlb, isDigit_f]
        refine ev_pos (by omega) (ev_some ?_)
        rw [← nnat b i hlb]
        cases hy : nn (b.drop i) with
        | true => exact more i hia hib (.inr hy) nx
        | false => exact fin i hia hib hx hy
      · exact ev_neg (by omega) (fin i hia hib hx (nnend b i hlb))
    | false =>
      rw [hda] at na
      exact ev_neg (by simp) (more i hia hib (.inl na) nx)
theorem debParts_l0 (n : Nat) : ∀ a b : List UInt8, a.length + b.length ≤ n → a.length < 4611686018427387904 → b.length < 4611686018427387904 → Ev (fun k => spec_debParts.l0 k (bs a) (bs b)) (Deb.debC a b) := by
  induction n with
  | zero =>
    intro a b h _ _
    obtain rfl : a = [] := List.length_eq_zero_iff.1 (by omega)
    obtain rfl : b = [] := List.length_eq_zero_iff.1 (by omega)
    refine Ev.step (fun k => by rw [spec_debParts.l0, bs_size]) ?_
    refine ev_neg (by simp) (Ev.step (fun k => by rw [spec_debParts.j1]) ?_)
    exact ev_neg (by simp) (Ev.now _)
  | succ n ih =>
    intro a b h ha hb
    refine Ev.step (fun k => by rw [spec_debParts.l0, bs_size, bs_size]) ?_
    have go : 0 < a.length + b.length → Ev (fun k => spec_debParts.j1 k (bs a) (bs b) true) (Deb.debC a b) := fun h0 => by
      refine Ev.step (fun k => by rw [spec_debParts.j1]) ?_
      have := debParts_in a b ha hb h0 (fun u v huv hu hv => ih u v (by omega) hu hv) a.length 0 (Nat.zero_le _) (Nat.zero_le _) (by omega)
      exact ev_pos rfl this
    by_cases h1 : 0 < a.length
    · exact ev_pos (by omega) (go (by omega))
    · refine ev_neg (by omega) ?_
      by_cases h2 : 0 < b.length
      · rw [decide_eq_true (show (b.length : Int) > 0 by omega)]
        exact go (by omega)
      · obtain rfl : a = [] := List.length_eq_zero_iff.1 (by omega)
        obtain rfl : b = [] := List.length_eq_zero_iff.1 (by omega)
        rw [decide_eq_false (show ¬ ((([] : List UInt8).length : Int) > 0) by simp)]
        refine Ev.step (fun k => by rw [spec_debParts.j1]) ?_
        exact ev_neg (by simp) (Ev.now _)
theorem debParts_ev (a b : List UInt8) (ha : a.length < 4611686018427387904) (hb : b.length < 4611686018427387904) : Ev (fun k => spec_debParts.f k (bs a) (bs b)) (Deb.debC a b) := debParts_l0 (a.length + b.length) a b (Nat.le_refl _) ha hb
end Go.Proofs.YtffcbcihnoaikaaDoor.QO

namespace Go.Proofs.YtffcbcihnoaikaaDoor.Lb
set_option linter.unusedVariables false

/-- The bytes of a number, the lowest first; the last one is not 0. -/
def lb (n : Nat) : List Nat := if h : n = 0 then [] else n % 256 :: lb (n / 256)
termination_by n
decreasing_by omega
theorem lb_zero : lb 0 = [] := by unfold lb; simp
theorem lb_pos {n : Nat} (h : n ≠ 0) : lb n = n % 256 :: lb (n / 256) := by
  conv => lhs; unfold lb
  rw [dif_neg h]
theorem lb_small (n : Nat) : ∀ d ∈ lb n, d < 256 := by
  induction n using Nat.strongRecOn with
  | _ n ih =>
    by_cases h : n = 0
    · rw [h, lb_zero]
      intro d hd
      simp at hd
    · rw [lb_pos h]
      intro d hd
      rcases List.mem_cons.1 hd with rfl | hd
      · omega
      · exact ih _ (by omega) d hd
/-- Ten times bytes and a carry. -/
def ma : Nat → List Nat → List Nat
  | c, [] => if c = 0 then [] else [c]
  | c, x :: r => (c + 10 * x) % 256 :: ma ((c + 10 * x) / 256) r
theorem ma_lb (n : Nat) : ∀ c, c ≤ 9 → ma c (lb n) = lb (10 * n + c) := by
  induction n using Nat.strongRecOn with
  | _ n ih =>
    intro c hc
    by_cases h : n = 0
    · subst h
      rw [lb_zero, ma]
      by_cases hz : c = 0
      · rw [if_pos hz, hz]
        exact lb_zero.symm
      · rw [if_neg hz, lb_pos (by omega), show (10 * 0 + c) % 256 = c by omega, show (10 * 0 + c) / 256 = 0 by omega, lb_zero]
    · rw [lb_pos h, ma, ih _ (by omega) _ (by omega)]
      rw [lb_pos (show 10 * n + c ≠ 0 by omega)]
      rw [show (c + 10 * (n % 256)) % 256 = (10 * n + c) % 256 by omega, show 10 * (n / 256) + (c + 10 * (n % 256)) / 256 = (10 * n + c) / 256 by omega]
theorem lb_len (n k : Nat) (h : n < 10 ^ k) : (lb n).length ≤ k := by
  induction k generalizing n with
  | zero =>
    have : n = 0 := by simpa using h
    rw [this, lb_zero]
    exact Nat.le_refl _
  | succ k ih =>
    by_cases z : n = 0
    · rw [z, lb_zero]
      exact Nat.zero_le _
    · rw [lb_pos z, List.length_cons]
      have := ih (n / 256) (by rw [Nat.pow_succ] at h; omega)
      omega
/-- The bytes of a number, the highest first. -/
def mag (n : Nat) : List UInt8 := (lb n).reverse.map UInt8.ofNat
theorem mag_zero : mag 0 = [] := by unfold mag; rw [lb_zero]; rfl
theorem mag_nil {n : Nat} (h : mag n = []) : n = 0 := by
  by_cases z : n = 0
  · exact z
  · unfold mag at h
    rw [lb_pos z] at h
    simp at h
def lv : List Nat → Nat
  | [] => 0
  | d :: r => d + 256 * lv r
theorem lv_lb (n : Nat) : lv (lb n) = n := by
  induction n using Nat.strongRecOn with
  | _ n ih =>
    by_cases h : n = 0
    · rw [h, lb_zero]
      rfl
    · rw [lb_pos h, lv, ih _ (by omega)]
      omega
theorem mag_inj {a b : Nat} (h : mag a = mag b) : a = b := by
  have e : ∀ n, (lb n).reverse = (mag n).map UInt8.toNat := by
    intro n
    unfold mag
    rw [List.map_map]
    conv => lhs; rw [← List.map_id (lb n).reverse]
    refine List.map_congr_left ?_
    intro d hd
    have := lb_small n d (List.mem_reverse.1 hd)
    simp only [id_eq, Function.comp_apply]
    rw [UInt8.toNat_ofNat']
    omega
  have := congrArg List.reverse ((e a).trans ((congrArg (List.map UInt8.toNat) h).trans (e b).symm))
  rw [List.reverse_reverse, List.reverse_reverse] at this
  have := congrArg lv this
  rwa [lv_lb, lv_lb] at this
end Go.Proofs.YtffcbcihnoaikaaDoor.Lb

namespace Go.Proofs.YtffcbcihnoaikaaDoor.Lb
open Go.Proofs.YtffcbcihnoaikaaDoor.Ord
set_option linter.unusedVariables false

theorem mag_rec {n : Nat} (h : n ≠ 0) : mag n = mag (n / 256) ++ [UInt8.ofNat (n % 256)] := by
  conv => lhs; unfold mag
  rw [lb_pos h, List.reverse_cons, List.map_append]
  rfl
theorem mag_len0 {n : Nat} (h : n ≠ 0) : (mag n).length ≠ 0 := fun e => h (mag_nil (List.length_eq_zero_iff.1 e))
theorem mag_head (n : Nat) : ∀ c r, mag n = c :: r → c ≠ 0 := by
  induction n using Nat.strongRecOn with
  | _ n ih =>
    intro c r h
    have hn : n ≠ 0 := by
      rintro rfl
      rw [mag_zero] at h
      cases h
    rw [mag_rec hn] at h
    cases e : mag (n / 256) with
    | nil =>
      rw [e] at h
      have z := mag_nil e
      obtain ⟨rfl, _⟩ := List.cons.inj h
      intro hc
      have := congrArg UInt8.toNat hc
      rw [UInt8.toNat_ofNat'] at this
      simp at this
      omega
    | cons x s =>
      rw [e, List.cons_append] at h
      obtain ⟨rfl, _⟩ := List.cons.inj h
      exact ih _ (by omega) _ _ e
theorem cS_snoc : ∀ (l m : List UInt8) (x y : UInt8), l.length = m.length → cS (l ++ [x]) (m ++ [y]) = if cS l m = 0 then cB x y else cS l m
  | [], [], x, y, _ => by
    simp only [cS, lexL, List.nil_append, if_true]
    split
    · next h => exact h.symm
    · rfl
  | [], b :: m, x, y, h => by simp at h
  | a :: l, [], x, y, h => by simp at h
  | a :: l, b :: m, x, y, h => by
    have ih := cS_snoc l m x y (by simpa using h)
    have e1 : cS (a :: l ++ [x]) (b :: m ++ [y]) = if cB a b = 0 then cS (l ++ [x]) (m ++ [y]) else cB a b := rfl
    have e2 : cS (a :: l) (b :: m) = if cB a b = 0 then cS l m else cB a b := rfl
    rw [e1, e2]
    by_cases z : cB a b = 0
    · rw [if_pos z, if_pos z]
      exact ih
    · rw [if_neg z, if_neg z, if_neg z]
theorem cB_of (p q : Nat) (hp : p < 256) (hq : q < 256) : cB (UInt8.ofNat p) (UInt8.ofNat q) = cI p q := by
  unfold cB
  rw [UInt8.toNat_ofNat', UInt8.toNat_ofNat', Nat.mod_eq_of_lt (by omega), Nat.mod_eq_of_lt (by omega)]
def magC (a b : Nat) : Int := if (mag a).length = (mag b).length then cS (mag a) (mag b) else cI (mag a).length (mag b).length
theorem magC_eq (a : Nat) : ∀ b : Nat, magC a b = cI a b := by
  induction a using Nat.strongRecOn with
  | _ a ih =>
    intro b
    by_cases ha : a = 0
    · subst ha
      by_cases hb : b = 0
      · subst hb
        unfold magC
        rw [if_pos rfl, mag_zero]
        rfl
      · have l := mag_len0 hb
        unfold magC
        rw [mag_zero, List.length_nil, if_neg (by omega)]
        generalize (mag b).length = n at *
        unfold cI
        rw [if_pos (by omega), if_pos (by omega)]
    · by_cases hb : b = 0
      · subst hb
        have l := mag_len0 ha
        unfold magC
        rw [mag_zero, List.length_nil, if_neg (by omega)]
        generalize (mag a).length = n at *
        unfold cI
        rw [if_neg (by omega), if_pos (by omega), if_neg (by omega), if_pos (by omega)]
      · have h := ih (a / 256) (by omega) (b / 256)
        unfold magC at h ⊢
        rw [mag_rec ha, mag_rec hb, List.length_append, List.length_append, List.length_singleton, List.length_singleton]
        by_cases e : (mag (a / 256)).length = (mag (b / 256)).length
        · rw [if_pos e] at h
          rw [if_pos (by omega), cS_snoc _ _ _ _ e, h, cB_of _ _ (by omega) (by omega)]
          clear h ih e
          unfold cI
          repeat' split
          all_goals omega
        · rw [if_neg e] at h
          rw [if_neg (by omega)]
          have e2 : cI ((a / 256 : Nat) : Int) ((b / 256 : Nat) : Int) ≠ 0 := by
            rw [← h, Ne, cI_zero]
            omega
          generalize (mag (a / 256)).length = p at *
          generalize (mag (b / 256)).length = q at *
          have e1 : cI ((p + 1 : Nat) : Int) ((q + 1 : Nat) : Int) = cI (p : Int) (q : Int) := by
            clear h e2 ih
            unfold cI
            repeat' split
            all_goals omega
          rw [e1, h]
          clear h e1 ih e
          revert e2
          unfold cI
          repeat' split
          all_goals omega
end Go.Proofs.YtffcbcihnoaikaaDoor.Lb

namespace Go.Proofs.YtffcbcihnoaikaaDoor.QO
open Go.RowKit Go.Proofs.YtffcbcihnoaikaaDoorW.PrintWords Go.Proofs.YtffcbcihnoaikaaDoorW.PrintLast Go.Proofs.YtffcbcihnoaikaaDoor.Pk Go.Proofs.YtffcbcihnoaikaaDoor.Giv Go.Proofs.YtffcbcihnoaikaaDoor.Ord
set_option linter.unusedVariables false

theorem pi_tail (s : ByteArray) (h : 0 < s.size) : s.toList = s[0]'h :: (s.extract 1 s.size).toList := by
  rw [ext_all]
  have := drop_at s 0 h
  simpa using this
def wi (l : List Nat) : List Int := l.map Int.ofNat
theorem wi_len (l : List Nat) : (wi l).length = l.length := by simp [wi]
theorem wi_rd (p : List Nat) (x : Nat) (r : List Nat) : rd (wi (p ++ x :: r)) (p.length : Int) = (x : Int) := by
  rw [rd_nat _ _ (by rw [wi_len]; simp)]
  simp [wi]
theorem wi_set (p : List Nat) (x : Nat) (r : List Nat) (y : Nat) : (wi (p ++ x :: r)).set p.length (y : Int) = wi (p ++ y :: r) := by
  unfold wi
  rw [List.map_append, List.map_cons, List.set_append_right _ _ (by simp), List.length_map, Nat.sub_self, List.map_append, List.map_cons]
  rfl
theorem io_step (c x : Nat) (hc : c ≤ 9) (hx : x < 256) : (Int.tmod (wrap64 ((c : Int) + (wrap64 (10 * (wrap64 (x : Int)))))) 256) % 256 = (((c + 10 * x) % 256 : Nat) : Int) ∧ wrap64 (Int.tdiv (wrap64 ((c : Int) + (wrap64 (10 * (wrap64 (x : Int)))))) 256) = (((c + 10 * x) / 256 : Nat) : Int) := by
  have w1 : wrap64 (x : Int) = x := by unfold wrap64; omega
  have w2 : wrap64 (10 * (x : Int)) = 10 * x := by unfold wrap64; omega
  have w3 : wrap64 ((c : Int) + 10 * x) = ((c + 10 * x : Nat) : Int) := by unfold wrap64; omega
  rw [w1, w2, w3]
  have a : Int.tmod ((c + 10 * x : Nat) : Int) 256 = (((c + 10 * x) % 256 : Nat) : Int) := Int.ofNat_tmod _ _ |>.symm
  have b : Int.tdiv ((c + 10 * x : Nat) : Int) 256 = (((c + 10 * x) / 256 : Nat) : Int) := Int.ofNat_tdiv _ _ |>.symm
  rw [a, b]
  refine ⟨by omega, by unfold wrap64; omega⟩
theorem io_l1 (s : ByteArray) (i : Nat) (V : Bool × ByteArray) (r : List Nat) : ∀ (p : List Nat) (c : Nat), c ≤ 9 → (∀ x ∈ r, x < 256) → p.length + r.length < 100000 → Ev (fun k => spec_intOf.l0 k s (wi (p ++ Lb.ma c r)) (wrap64 ((i : Int) + 1))) V → Ev (fun k => spec_intOf.l1 k s (wi (p ++ r)) (i : Int) (c : Int) (p.length : Int)) V := by
  induction r with
  | nil =>
    intro p c hc _ hl nx
    rw [List.append_nil]
    refine Ev.step (fun k => by rw [spec_intOf.l1]) ?_
    refine ev_neg (by rw [wi_len]; omega) ?_
    rw [Lb.ma] at nx
    by_cases hz : c = 0
    · rw [if_pos hz, List.append_nil] at nx
      exact ev_neg (by omega) nx
    · rw [if_neg hz] at nx
      refine ev_pos (by omega) (ev_pos (by rw [wi_len]; omega) ?_)
      have e : wi p ++ [(c : Int) % 256] = wi (p ++ [c]) := by
        unfold wi
        rw [List.map_append, show (c : Int) % 256 = (c : Int) by omega]
        rfl
      rw [e]
      exact nx
  | cons x r ih =>
    intro p c hc hs hl nx
    have hx := hs x List.mem_cons_self
    have w := wr p.length (by simp at hl; omega)
    obtain ⟨a, b⟩ := io_step c x hc hx
    have z := ih (p ++ [(c + 10 * x) % 256]) ((c + 10 * x) / 256) (by omega) (fun y hy => hs y (List.mem_cons_of_mem _ hy)) (by simp at hl ⊢; omega) (by
      rw [Lb.ma] at nx
      rw [List.append_assoc]
      exact nx)
    rw [List.append_assoc, List.length_append, List.length_singleton] at z
    refine Ev.step (fun k => by rw [spec_intOf.l1, wi_rd, a, b, w, Int.toNat_natCast, wi_set]) ?_
    refine ev_pos (by rw [wi_len]; simp; omega) (ev_pos (by omega) ?_)
    exact z
theorem io_l2 (l : List Nat) (hl : l.length < 100000) (d : Nat) : ∀ j : Nat, j + d = l.length → Ev (fun k => spec_intOf.l2 k (wi l) (wi (List.replicate (l.length - j) 0 ++ (l.take j).reverse)) (j : Int)) (false, strOfNums (wi l.reverse)) := by
  induction d with
  | zero =>
    intro j hj
    refine Ev.step (fun k => by rw [spec_intOf.l2]) ?_
    refine ev_neg (by rw [wi_len]; omega) ?_
    rw [show l.length - j = 0 by omega, List.replicate_zero, List.nil_append, List.take_of_length_le (by omega)]
    exact Ev.now _
  | succ d ih =>
    intro j hj
    have hlt : j < l.length := by omega
    have w := wr j (by omega)
    have w1 : wrap64 ((wrap64 (((wi l).length : Int) - 1)) - (j : Int)) = ((l.length - 1 - j : Nat) : Int) := by
      rw [wi_len]
      unfold wrap64
      omega
    have r : rd (wi l) (j : Int) = ((l[j]'hlt : Nat) : Int) := by
      rw [rd_nat _ _ (by rw [wi_len]; exact hlt)]
      simp [wi]
    have e : (wi (List.replicate (l.length - j) 0 ++ (l.take j).reverse)).set (l.length - 1 - j) ((l[j]'hlt : Nat) : Int) = wi (List.replicate (l.length - (j + 1)) 0 ++ (l.take (j + 1)).reverse) := by
      have q := wi_set (List.replicate (l.length - (j + 1)) 0) 0 (l.take j).reverse (l[j]'hlt)
      rw [List.length_replicate] at q
      rw [show l.length - j = (l.length - (j + 1)) + 1 by omega, List.replicate_succ', List.append_assoc, List.take_succ_eq_append_getElem hlt, List.reverse_append, show l.length - 1 - j = l.length - (j + 1) by omega]
      exact q
    have z := ih (j + 1) (by omega)
    refine Ev.step (fun k => by rw [spec_intOf.l2, w1, r, w, Int.toNat_natCast, e]) ?_
    refine ev_pos (by rw [wi_len]; omega) (ev_pos (by omega) (ev_pos (by omega) (ev_pos ?_ z)))
    rw [wi_len, List.length_append, List.length_replicate, List.length_reverse, List.length_take]
    omega
theorem strOf_mag (n : Nat) : strOfNums (wi (Lb.lb n).reverse) = bs (Lb.mag n) := by
  unfold strOfNums bs Lb.mag wi
  rw [List.map_map]
  rfl
theorem io_l0 (s : ByteArray) (hs : s.size ≤ 40000) (ha : s.toList.all Rpm.dig = true) (d : Nat) : ∀ i : Nat, i + d = s.size → Ev (fun k => spec_intOf.l0 k s (wi (Lb.lb (Num.dec (s.toList.take i)))) (i : Int)) (false, bs (Lb.mag (Num.dec s.toList))) := by
  have len : ∀ i, (Lb.lb (Num.dec (s.toList.take i))).length ≤ 40000 := by
    intro i
    have h := Num.dec_lt (s.toList.take i) (by
      rw [List.all_eq_true] at ha ⊢
      intro x hx
      exact ha x (List.mem_of_mem_take hx))
    have := Lb.lb_len _ _ h
    rw [List.length_take, len_toList] at this
    omega
  induction d with
  | zero =>
    intro i hi
    have l := len i
    rw [List.take_of_length_le (by rw [len_toList]; omega)] at l ⊢
    refine Ev.step (fun k => by rw [spec_intOf.l0]) ?_
    refine ev_neg (by omega) (ev_pos (by omega) (ev_pos (by rw [wi_len]; omega) ?_))
    have := io_l2 (Lb.lb (Num.dec s.toList)) (by omega) _ 0 (Nat.zero_add _)
    rw [strOf_mag] at this
    have e : List.replicate (((wi (Lb.lb (Num.dec s.toList))).length : Int)).toNat (0 : Int) = wi (List.replicate ((Lb.lb (Num.dec s.toList)).length - 0) 0 ++ ((Lb.lb (Num.dec s.toList)).take 0).reverse) := by
      rw [Int.toNat_natCast, wi_len]
      simp [wi]
    rw [e]
    exact this
  | succ d ih =>
    intro i hi
    have hlt : i < s.size := by omega
    have l := len i
    have hd : Rpm.dig (s[i]'hlt) = true := by
      rw [List.all_eq_true] at ha
      exact ha _ (by rw [← getElem_toList s i hlt]; exact List.getElem_mem _)
    have hd' : 48 ≤ (s[i]'hlt).toNat ∧ (s[i]'hlt).toNat ≤ 57 := by simpa [Rpm.dig] using hd
    have z := ih (i + 1) (by omega)
    rw [take_next' s i hlt, Num.dec_snoc, Nat.mul_comm, ← Lb.ma_lb _ _ (by omega)] at z
    have w := wr i (by omega)
    rw [← w] at z
    have e : ((((s[i]'hlt).toNat : Int) - 48) % 256) = (((s[i]'hlt).toNat - 48 : Nat) : Int) := by omega
    refine Ev.step (fun k => by rw [spec_intOf.l0, bt_nat s i hlt, e]) ?_
    refine ev_pos (by omega) (ev_pos (by omega) ?_)
    exact io_l1 s i _ _ [] _ (by omega) (Lb.lb_small _) (by simp; omega) z
theorem intOf_ev (s : ByteArray) (hs : s.size ≤ 40000) (ha : s.toList.all Rpm.dig = true) : Ev (fun k => spec_intOf.f k s) (false, bs (Lb.mag (Num.dec s.toList))) := by
  have := io_l0 s hs ha _ 0 (Nat.zero_add _)
  rw [List.take_zero, Num.dec_nil, Lb.lb_zero] at this
  exact this
/-- A number as the program tells it. -/
def told (z : Int) : Bool × ByteArray := (decide (z < 0), bs (Lb.mag z.natAbs))
theorem sn_j1 (s : ByteArray) (hs : s.size ≤ 40000) (neg : Bool) : Ev (fun k => spec_Number.j1 k s neg) (if Num.digits s.toList then ((told (if neg then -(Num.dec s.toList : Int) else (Num.dec s.toList : Int))).1, (told (if neg then -(Num.dec s.toList : Int) else (Num.dec s.toList : Int))).2, true) else (false, ⟨#[]⟩, false)) := by
  refine Ev.step (fun k => by rw [spec_Number.j1]) ?_
  refine (allDigits_ev s (by omega)).bind ?_
  cases hd : Num.digits s.toList with
  | false => exact ev_neg (by simp) (Ev.now _)
  | true =>
    have ha : s.toList.all Rpm.dig = true := by unfold Num.digits at hd; rw [Bool.and_eq_true] at hd; exact hd.2
    refine ev_pos rfl ((intOf_ev s hs ha).bind ?_)
    simp only [if_true, told]
    cases neg with
    | false =>
      refine ev_neg (by simp) ?_
      simp only [Bool.false_eq_true, if_false, Int.natAbs_natCast]
      rw [decide_eq_false (by omega)]
      exact Ev.now _
    | true =>
      refine ev_pos rfl ?_
      simp only [if_true, Int.natAbs_neg, Int.natAbs_natCast]
      have e : ((bs (Lb.mag (Num.dec s.toList))).toList != ([] : List UInt8)) = decide (-(Num.dec s.toList : Int) < 0) := by
        rw [bs_toList, Bool.eq_iff_iff]
        simp only [bne_iff_ne, ne_eq, decide_eq_true_eq]
        constructor
        · intro h
          have : Num.dec s.toList ≠ 0 := fun e => h (by rw [e, Lb.mag_zero])
          omega
        · intro h e
          have := Lb.mag_nil e
          omega
      rw [e]
      exact Ev.now _
/-- The reference reads a number as the plain function does. -/
theorem specNumber_ev (s : ByteArray) (hs : s.size ≤ 40000) : Ev (fun k => spec_Number.f k s) (match Num.parse s.toList with | some z => ((told z).1, (told z).2, true) | none => (false, ⟨#[]⟩, false)) := by
  have fin : ∀ (t : ByteArray) (neg : Bool), t.size ≤ 40000 → Num.cutSign s.toList = (neg, t.toList) → Ev (fun k => spec_Number.j1 k t neg) (match Num.parse s.toList with | some z => ((told z).1, (told z).2, true) | none => (false, ⟨#[]⟩, false)) := by
    intro t neg ht hc
    have := sn_j1 t ht neg
    unfold Num.parse
    rw [hc]
    cases hd : Num.digits t.toList <;> (rw [hd] at this; exact this)
  unfold spec_Number.f
  by_cases h : (s.size : Int) > 0
  · have h0 : 0 < s.size := by omega
    have et := pi_tail s h0
    have b0 : bt s 0 = ((s[0]'h0).toNat : Int) := bt_nat s 0 h0
    have hx : (s.extract 1 s.size).size ≤ 40000 := by rw [ByteArray.size_extract]; omega
    refine ev_pos h (ev_pos (by omega) ?_)
    rw [b0]
    by_cases c43 : ((s[0]'h0).toNat : Int) = 43
    · refine ev_pos c43 ?_
      refine Ev.step (fun k => by rw [spec_Number.j0]) ?_
      rw [b0]
      refine ev_pos rfl (ev_pos (by omega) (ev_pos (by omega) ?_))
      have e : (((s[0]'h0).toNat : Int) == 45) = false := beq_eq_false_iff_ne.2 (by omega)
      rw [e]
      refine fin _ false hx ?_
      rw [et]
      unfold Num.cutSign
      simp only
      rw [if_neg (by omega), if_pos (by omega)]
    · refine ev_neg c43 ?_
      by_cases c45 : ((s[0]'h0).toNat : Int) = 45
      · have e : (((s[0]'h0).toNat : Int) == 45) = true := beq_iff_eq.2 c45
        rw [e]
        refine Ev.step (fun k => by rw [spec_Number.j0]) ?_
        rw [b0, e]
        refine ev_pos rfl (ev_pos (by omega) (ev_pos (by omega) ?_))
        refine fin _ true hx ?_
        rw [et]
        unfold Num.cutSign
        simp only
        rw [if_pos (by omega)]
      · have e : (((s[0]'h0).toNat : Int) == 45) = false := beq_eq_false_iff_ne.2 c45
        rw [e]
        refine Ev.step (fun k => by rw [spec_Number.j0]) ?_
        refine ev_neg (by simp) ?_
        refine fin s false hs ?_
        conv => lhs; rw [et]
        unfold Num.cutSign
        simp only
        rw [if_neg (by omega), if_neg (by omega), ← et]
  · refine ev_neg h ?_
    refine Ev.step (fun k => by rw [spec_Number.j0]) ?_
    refine ev_neg (by simp) ?_
    refine fin s false hs ?_
    have e : s.toList = [] := List.length_eq_zero_iff.1 (by rw [len_toList]; omega)
    rw [e]
    rfl
end Go.Proofs.YtffcbcihnoaikaaDoor.QO

namespace Go.Proofs.YtffcbcihnoaikaaDoor.QO
open Go.RowKit Go.Proofs.YtffcbcihnoaikaaDoorW.PrintWords Go.Proofs.YtffcbcihnoaikaaDoorW.PrintLast Go.Proofs.YtffcbcihnoaikaaDoor.Pk Go.Proofs.YtffcbcihnoaikaaDoor.Giv Go.Proofs.YtffcbcihnoaikaaDoor.Ord
set_option linter.unusedVariables false

theorem told_zero : told 0 = (false, (⟨#[]⟩ : ByteArray)) := by
  unfold told
  rw [show (0 : Int).natAbs = 0 from rfl, Lb.mag_zero]
  rfl
theorem tidy_ev (z : Int) : Ev (fun k => spec_numTidy.f k (told z).1 (told z).2) (told z) := by
  unfold spec_numTidy.f
  refine Ev.step (fun k => by rw [spec_numTidy.l0]) ?_
  unfold told
  dsimp only
  cases e : Lb.mag z.natAbs with
  | nil =>
    have z0 := Lb.mag_nil e
    have hz : ¬ z < 0 := by omega
    rw [decide_eq_false hz]
    refine ev_neg (by rw [bs_size]; simp) (ev_neg (by simp) ?_)
    exact Ev.now _
  | cons c r =>
    have hc := Lb.mag_head _ c r e
    refine ev_pos (by rw [bs_size, List.length_cons]; omega) (ev_pos (by rw [bs_size, List.length_cons]; omega) ?_)
    rw [bs_bt0]
    refine ev_neg (fun h => hc (UInt8.toNat_inj.1 (by rw [show (0 : UInt8).toNat = 0 from rfl]; omega))) ?_
    by_cases hz : z < 0
    · rw [decide_eq_true hz, bs_toList, show ((c :: r) != ([] : List UInt8)) = true from rfl]
      refine ev_pos rfl ?_
      exact Ev.now _
    · rw [decide_eq_false hz]
      refine ev_neg (by simp) ?_
      exact Ev.now _
theorem orderInts_f (a b : Int) : spec_orderInts.f a b = some (cI a b) := by
  unfold spec_orderInts.f cI
  by_cases h : a < b
  · rw [if_pos h, if_pos h]
  · rw [if_neg h, if_neg h]
    by_cases h2 : b < a
    · rw [if_pos h2, if_pos h2]
    · rw [if_neg h2, if_neg h2]
theorem intOrder_j2 (p q : Bool) (a b : Nat) : Ev (fun k => spec_intOrder.j2 k p (bs (Lb.mag a)) q (bs (Lb.mag b))) (cI a b) := by
  have m := Lb.magC_eq a b
  unfold Lb.magC at m
  refine Ev.step (fun k => by rw [spec_intOrder.j2]) ?_
  rw [bs_size, bs_size]
  by_cases h : (Lb.mag a).length = (Lb.mag b).length
  · rw [if_pos h] at m
    refine ev_pos (by omega) ?_
    have : Giv.spec_order.f (bs (Lb.mag a)) (bs (Lb.mag b)) = some (cI a b) := by
      unfold Giv.spec_order.f
      rw [bs_toList, bs_toList, m]
    rw [this]
    exact ev_some (Ev.now _)
  · rw [if_neg h] at m
    refine ev_neg (by omega) ?_
    rw [orderInts_f, m]
    exact ev_some (Ev.now _)
theorem intOrder_ev (z y : Int) : Ev (fun k => spec_intOrder.f k (told z).1 (told z).2 (told y).1 (told y).2) (cI z y) := by
  unfold spec_intOrder.f
  refine (tidy_ev z).bind ((tidy_ev y).bind ?_)
  by_cases hz : z < 0
  · have e1 : (told z).1 = true := decide_eq_true hz
    by_cases hy : y < 0
    · have e2 : (told y).1 = true := decide_eq_true hy
      rw [e1, e2]
      refine ev_pos rfl ?_
      refine Ev.step (fun k => by rw [spec_intOrder.j0]) ?_
      refine ev_neg (by simp) (ev_pos rfl ?_)
      refine Ev.step (fun k => by rw [spec_intOrder.j1]) ?_
      refine ev_neg (by simp) (ev_pos rfl ?_)
      have := intOrder_j2 true true y.natAbs z.natAbs
      rw [show cI ((y.natAbs : Nat) : Int) ((z.natAbs : Nat) : Int) = cI z y by unfold cI; repeat' split; all_goals omega] at this
      exact this
    · have e2 : (told y).1 = false := decide_eq_false hy
      rw [e1, e2]
      refine ev_pos rfl ?_
      refine Ev.step (fun k => by rw [spec_intOrder.j0]) ?_
      rw [show cI z y = -1 by unfold cI; rw [if_pos (by omega)]]
      exact ev_pos rfl (Ev.now _)
  · have e1 : (told z).1 = false := decide_eq_false hz
    by_cases hy : y < 0
    · have e2 : (told y).1 = true := decide_eq_true hy
      rw [e1, e2]
      refine ev_neg (by simp) ?_
      refine Ev.step (fun k => by rw [spec_intOrder.j0]) ?_
      refine ev_neg (by simp) (ev_neg (by simp) ?_)
      refine Ev.step (fun k => by rw [spec_intOrder.j1]) ?_
      rw [show cI z y = 1 by unfold cI; rw [if_neg (by omega), if_pos (by omega)]]
      exact ev_pos rfl (Ev.now _)
    · have e2 : (told y).1 = false := decide_eq_false hy
      rw [e1, e2]
      refine ev_neg (by simp) ?_
      refine Ev.step (fun k => by rw [spec_intOrder.j0]) ?_
      refine ev_neg (by simp) (ev_neg (by simp) ?_)
      refine Ev.step (fun k => by rw [spec_intOrder.j1]) ?_
      refine ev_neg (by simp) (ev_neg (by simp) ?_)
      have := intOrder_j2 false false z.natAbs y.natAbs
      rw [show cI ((z.natAbs : Nat) : Int) ((y.natAbs : Nat) : Int) = cI z y by unfold cI; repeat' split; all_goals omega] at this
      exact this
end Go.Proofs.YtffcbcihnoaikaaDoor.QO

namespace Go.Proofs.YtffcbcihnoaikaaDoor.QO
open Go.RowKit Go.Proofs.YtffcbcihnoaikaaDoorW.PrintWords Go.Proofs.YtffcbcihnoaikaaDoorW.PrintLast Go.Proofs.YtffcbcihnoaikaaDoor.Pk Go.Proofs.YtffcbcihnoaikaaDoor.Giv Go.Proofs.YtffcbcihnoaikaaDoor.Ord
set_option linter.unusedVariables false
set_option linter.unusedSimpArgs false
/-- The last place of a byte in what begins a text. -/
def lastP (c : UInt8) (l : List UInt8) : Int := match Deb.cutLast c l with | some p => (p.1.length : Int) | none => -1
theorem lastP_snoc (c x : UInt8) (l : List UInt8) : lastP c (l ++ [x]) = if x = c then (l.length : Int) else lastP c l := by
  unfold lastP
  by_cases h : x = c
  · rw [if_pos h, h, Deb.cutLast_of (by rfl)]
  · rw [if_neg h]
    cases hc : Deb.cutLast c l with
    | none =>
      have := (Deb.cutLast_none c l).1 hc
      rw [(Deb.cutLast_none c (l ++ [x])).2 (by rw [List.any_append, this]; simp [h])]
    | some p =>
      obtain ⟨u, v⟩ := p
      obtain ⟨e, hv⟩ := Deb.cutLast_some c hc
      have : Deb.cutLast c (l ++ [x]) = some (u, v ++ [x]) := by
        rw [e, List.append_assoc, List.cons_append]
        exact Deb.cutLast_of (by rw [List.any_append, hv]; simp [h])
      rw [this]
theorem lastOf_loop (l : List UInt8) (c : UInt8) (hl : l.length < 4611686018427387904) (d : Nat) : ∀ i : Nat, i + d = l.length → Ev (fun k => spec_lastOf.l0 k (bs l) (c.toNat : Int) (lastP c (l.take i)) (i : Int)) (lastP c l) := by
  induction d with
  | zero =>
    intro i hi
    refine Ev.step (fun k => by rw [spec_lastOf.l0, bs_size]) ?_
    rw [List.take_of_length_le (by omega)]
    exact ev_neg (by omega) (Ev.now _)
  | succ d ih =>
    intro i hi
    have hlt : i < l.length := by omega
    have w := wr i (by omega)
    have nx := ih (i + 1) (by omega)
    rw [List.take_succ_eq_append_getElem hlt, lastP_snoc] at nx
    refine Ev.step (fun k => by rw [spec_lastOf.l0, bs_size, bs_bt l i hlt, w]) ?_
    refine ev_pos (by omega) (ev_pos (by omega) ?_)
    by_cases h : l[i]'hlt = c
    · rw [if_pos h, List.length_take, Nat.min_eq_left (by omega)] at nx
      exact ev_pos (by rw [h]) nx
    · rw [if_neg h] at nx
      exact ev_neg (fun e => h (UInt8.toNat_inj.1 (by omega))) nx
theorem lastOf_ev (l : List UInt8) (c : UInt8) (hl : l.length < 4611686018427387904) : Ev (fun k => spec_lastOf.f k (bs l) (c.toNat : Int)) (lastP c l) := lastOf_loop l c hl l.length 0 (by omega)
theorem place_up (c : UInt8) (l : List UInt8) (h : (l.any (fun x => x == c)) = true) : placeOf (fun x => x == c) l = ((Cut.upTo c l).length : Int) := QC.sp_place c l h
/-- What a text falls into behind its epoch, as the reference reads it. -/
theorem behind_ev {α : Type} (t : List UInt8) (ht : t.length ≤ 40000) (G : ByteArray → ByteArray → Option α) (V : α) (hV : G (bs (Deb.urv t).1) (bs (Deb.urv t).2) = some V) :
    Ev (fun k => (spec_lastOf.f k (bs t) 45).bind fun t141 => (if t141 ≥ 0 then (if 0 ≤ t141 then (if t141 ≤ ((bs t).size : Int) then (if 0 ≤ (wrap64 (t141 + 1)) then (if (wrap64 (t141 + 1)) ≤ ((bs t).size : Int) then G ((bs t).extract 0 (t141 : Int).toNat) ((bs t).extract ((wrap64 (t141 + 1)) : Int).toNat (bs t).size) else none) else none) else none) else none) else G (bs t) (⟨#[48]⟩ : ByteArray))) V := by
  refine (lastOf_ev t 45 (by omega)).bind ?_
  unfold Deb.urv at hV
  unfold lastP
  cases hc : Deb.cutLast 45 t with
  | none =>
    rw [hc] at hV
    have hV : G (bs t) (⟨#[48]⟩ : ByteArray) = some V := hV
    show Ev (fun k => if (-1 : Int) ≥ 0 then _ else G (bs t) (⟨#[48]⟩ : ByteArray)) V
    refine ev_neg (by decide) ?_
    rw [hV]
    exact Ev.now _
  | some p =>
    obtain ⟨u, v⟩ := p
    rw [hc] at hV
    have hV : G (bs u) (bs v) = some V := hV
    obtain ⟨e, _⟩ := Deb.cutLast_some 45 hc
    have hl : t.length = u.length + (v.length + 1) := by rw [e, List.length_append, List.length_cons]
    have w : wrap64 ((u.length : Int) + 1) = ((u.length + 1 : Nat) : Int) := wr u.length (by omega)
    have e1 : (bs t).extract 0 u.length = bs u := by rw [bs_extHead, e, List.take_left' rfl]
    have e2 : (bs t).extract (u.length + 1) (bs t).size = bs v := by
      rw [bs_extAll, e, ← List.drop_drop, List.drop_left' rfl]
      rfl
    show Ev (fun k => if (u.length : Int) ≥ 0 then (if 0 ≤ (u.length : Int) then (if (u.length : Int) ≤ ((bs t).size : Int) then (if 0 ≤ (wrap64 ((u.length : Int) + 1)) then (if (wrap64 ((u.length : Int) + 1)) ≤ ((bs t).size : Int) then G ((bs t).extract 0 ((u.length : Int)).toNat) ((bs t).extract ((wrap64 ((u.length : Int) + 1)) : Int).toNat (bs t).size) else none) else none) else none) else none) else G (bs t) (⟨#[48]⟩ : ByteArray)) V
    rw [w, Int.toNat_natCast, Int.toNat_natCast, e1, e2, bs_size]
    refine ev_pos (by omega) (ev_pos (by omega) (ev_pos (by omega) (ev_pos (by omega) (ev_pos (by omega) ?_))))
    rw [hV]
    exact Ev.now _
/-- What the reference answers of a version. -/
theorem specParse_ev (l : List UInt8) (hl : l.length ≤ 40000) : Ev (fun k => spec_DebianParse.f k (bs l)) (match dvL l with | some p => ((told p.1).1, (told p.1).2, bs p.2.1, bs p.2.2, true) | none => (false, ⟨#[]⟩, ⟨#[]⟩, ⟨#[]⟩, false)) := by
  have tl := Deb.dtr_len l
  unfold spec_DebianParse.f
  refine (debTrim_ev l (by omega)).bind ?_
  rw [dtrim_dtr]
  unfold dvL Deb.dvp
  generalize Deb.dtr l = t at *
  have ix := indexOf_ev (bs t) 58 (by rw [bs_size]; omega)
  rw [bs_toList] at ix
  refine ix.bind ?_
  cases h58 : t.any (fun x => x == 58) with
  | false =>
    have hp : placeOf (fun x => x == 58) t = -1 := by
      unfold placeOf
      rw [h58]
      rfl
    rw [hp, if_neg (by simp)]
    refine ev_neg (by decide) ?_
    have t0 : told 0 = (false, (⟨#[]⟩ : ByteArray)) := by
      unfold told
      rw [show (0 : Int).natAbs = 0 from rfl, Lb.mag_zero]
      rfl
    have b := behind_ev t (by omega) (fun x y => some ((false : Bool), (⟨#[]⟩ : ByteArray), x, y, true)) _ rfl
    show Ev _ ((told 0).1, (told 0).2, bs (Deb.urv t).1, bs (Deb.urv t).2, true)
    rw [t0]
    exact b
  | true =>
    have up := Cut.cutAt_yes 58 t h58
    rw [place_up 58 t h58, if_pos rfl]
    have e1 : (bs t).extract 0 (Cut.upTo 58 t).length = bs (Cut.upTo 58 t) := by rw [bs_extHead, up.2.2]
    have e2 : (bs t).extract ((Cut.upTo 58 t).length + 1) (bs t).size = bs (t.drop ((Cut.upTo 58 t).length + 1)) := bs_extAll _ _
    have e3 : (bs t).size - ((Cut.upTo 58 t).length + 1) = (bs (t.drop ((Cut.upTo 58 t).length + 1))).size := by rw [bs_size, bs_size, List.length_drop]
    have w : wrap64 (((Cut.upTo 58 t).length : Int) + 1) = (((Cut.upTo 58 t).length + 1 : Nat) : Int) := wr _ (by omega)
    have kl := up.2.1
    have ul : (Cut.upTo 58 t).length ≤ 40000 := by omega
    have rl : (t.drop ((Cut.upTo 58 t).length + 1)).length ≤ 40000 := by rw [List.length_drop]; omega
    have num := specNumber_ev (bs (Cut.upTo 58 t)) (by rw [bs_size]; exact ul)
    rw [bs_toList] at num
    rw [w, Int.toNat_natCast, Int.toNat_natCast, e1, e2, e3]
    generalize Cut.upTo 58 t = up' at *
    generalize t.drop (up'.length + 1) = rs at *
    refine ev_pos (by omega) (ev_pos (by omega) (ev_pos (by rw [bs_size]; omega) (num.bind ?_)))
    cases hp : Num.parse up' with
    | none => exact ev_neg (by simp) (Ev.now _)
    | some z =>
      refine ev_pos rfl (ev_pos (by omega) (ev_pos (by rw [bs_size]; omega) ?_))
      exact behind_ev rs rl (fun x y => some ((told z).1, (told z).2, x, y, true)) _ rfl
end Go.Proofs.YtffcbcihnoaikaaDoor.QO

namespace Go.Proofs.YtffcbcihnoaikaaDoor.QO
open Go.RowKit Go.Proofs.YtffcbcihnoaikaaDoorW.PrintWords Go.Proofs.YtffcbcihnoaikaaDoorW.PrintLast Go.Proofs.YtffcbcihnoaikaaDoor.Pk Go.Proofs.YtffcbcihnoaikaaDoor.Giv Go.Proofs.YtffcbcihnoaikaaDoor.Ord
set_option linter.unusedVariables false

theorem fits_loop (l : List ByteArray) (hl : l.length < 4611686018427387904) (d : Nat) : ∀ i : Nat, i + d = l.length → Tm (fun k => laws_zzFits1.l0 k l (l.length : Int) (i : Int)) := by
  induction d with
  | zero =>
    intro i hi
    refine Tm.step (fun k => by rw [laws_zzFits1.l0]) ?_
    exact Tm.ite (fun h => absurd h (by omega)) (fun _ => Tm.now _)
  | succ d ih =>
    intro i hi
    have w := wr i (by omega)
    refine Tm.step (fun k => by rw [laws_zzFits1.l0, w]) ?_
    refine Tm.ite (fun _ => Tm.ite (fun _ => Tm.ite (fun _ => Tm.ite (fun _ => Tm.now _) (fun _ => ?_)) (fun h => absurd (by omega) h)) (fun h => absurd (by omega) h)) (fun h => absurd (by omega) h)
    exact ih (i + 1) (by omega)
/-- Fits: it tells, and a list that fits is not long. -/
theorem fits_ev (l : List ByteArray) : ∃ b, Ev (fun k => laws_zzFits1.f k l) b ∧ (b = true → l.length ≤ 2147483647) := by
  unfold laws_zzFits1.f
  by_cases h : (l.length : Int) > 2147483647
  · exact ⟨false, ev_pos h (Ev.now _), fun e => by cases e⟩
  · obtain ⟨b, e⟩ := fits_loop l (by omega) l.length 0 (by omega)
    exact ⟨b, ev_neg h e, fun _ => by omega⟩
end Go.Proofs.YtffcbcihnoaikaaDoor.QO

namespace Go.Proofs.YtffcbcihnoaikaaDoor.QO
open Go.RowKit Go.Proofs.YtffcbcihnoaikaaDoorW.PrintWords Go.Proofs.YtffcbcihnoaikaaDoorW.PrintLast Go.Proofs.YtffcbcihnoaikaaDoor.Pk Go.Proofs.YtffcbcihnoaikaaDoor.Giv Go.Proofs.YtffcbcihnoaikaaDoor.Ord
set_option linter.unusedVariables false
set_option linter.unusedSimpArgs false
theorem dvp_len {t : List UInt8} {p : Int × List UInt8 × List UInt8} {n : Nat} (h : Deb.dvp t = some p) (hn : t.length ≤ n) (h1 : 1 ≤ n) : p.2.1.length ≤ n ∧ p.2.2.length ≤ n := by
  have ur : ∀ t : List UInt8, t.length ≤ n → (Deb.urv t).1.length ≤ n ∧ (Deb.urv t).2.length ≤ n := fun t ht => by
    unfold Deb.urv
    cases hc : Deb.cutLast 45 t with
    | none => exact ⟨ht, h1⟩
    | some q =>
      obtain ⟨u, v⟩ := q
      have e := congrArg List.length (Deb.cutLast_some 45 hc).1
      rw [List.length_append, List.length_cons] at e
      exact ⟨by show u.length ≤ n; omega, by show v.length ≤ n; omega⟩
  unfold Deb.dvp at h
  split at h
  · obtain ⟨z, _, rfl⟩ := Option.map_eq_some_iff.1 h
    exact ur _ (by rw [List.length_drop]; omega)
  · obtain rfl := Option.some.inj h
    exact ur t hn
theorem specCompare_ev (a b : List UInt8) (p q : Int × List UInt8 × List UInt8) (ha : a.length ≤ 40000) (hb : b.length ≤ 40000) (hp : dvL a = some p) (hq : dvL b = some q) : Ev (fun k => spec_DebianCompare.f k (bs a) (bs b)) (Deb.dvC p q, true) := by
  have la := dvp_len (n := 40000) hp (Nat.le_trans (Deb.dtr_len a) ha) (by omega)
  have lb := dvp_len (n := 40000) hq (Nat.le_trans (Deb.dtr_len b) hb) (by omega)
  have ea := specParse_ev a ha
  have eb := specParse_ev b hb
  rw [hp] at ea
  rw [hq] at eb
  unfold spec_DebianCompare.f
  refine ea.bind (eb.bind (ev_pos rfl ?_))
  refine Ev.step (fun k => by rw [spec_DebianCompare.j0]) ?_
  refine ev_neg (by simp) ((intOrder_ev p.1 q.1).bind ?_)
  unfold Deb.dvC
  by_cases h1 : cI p.1 q.1 = 0
  · rw [if_pos h1]
    refine ev_pos h1 ((debParts_ev p.2.1 q.2.1 (by omega) (by omega)).bind ?_)
    by_cases h2 : Deb.debC p.2.1 q.2.1 = 0
    · rw [if_pos h2]
      exact ev_pos h2 ((debParts_ev p.2.2 q.2.2 (by omega) (by omega)).bind (Ev.now _))
    · rw [if_neg h2]
      exact ev_neg h2 (Ev.now _)
  · rw [if_neg h1]
    exact ev_neg h1 (Ev.now _)
end Go.Proofs.YtffcbcihnoaikaaDoor.QO
