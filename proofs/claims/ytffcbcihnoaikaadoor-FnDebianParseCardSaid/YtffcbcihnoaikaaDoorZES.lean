/- 'short': of lists of texts.
   'Ascii' of the reference.
   'indexOf' of the reference.
   What the reference answers of Debian's texts: blanks around, what is known, parts compared.
   What the reference answers: digits.
   What the reference answers of numbers in decimal: their bytes, and which texts are numbers. -/
import Derived.Test.YtffcbcihnoaikaaDoorZD
import Derived.Test.YtffcbcihnoaikaaDoorQEx
import Derived.Test.YtffcbcihnoaikaaDoorZY
import Derived.Test.YtffcbcihnoaikaaDoorZA
import Derived.Test.YtffcbcihnoaikaaDoorLb
namespace Go.Proofs.YtffcbcihnoaikaaDoor.QE
open Go.RowKit Go.Proofs.YtffcbcihnoaikaaDoorW.PrintWords Go.Proofs.YtffcbcihnoaikaaDoorW.PrintLast Go.Proofs.YtffcbcihnoaikaaDoor.Pk Go.Proofs.YtffcbcihnoaikaaDoor.Giv
set_option linter.unusedVariables false

/-- Are all texts short, and not many of them? -/
def shortB (l : List ByteArray) : Bool := l.all (fun s => decide (s.size ≤ 1500)) && decide (l.length ≤ 150)
theorem short_loop (l : List ByteArray) (hl : l.length < 4611686018427387904) (d : Nat) : ∀ i : Nat, i + d = l.length → Ev (fun k => laws_short.l0 k l l (l.length : Int) (i : Int)) ((l.drop i).all (fun s => decide (s.size ≤ 1500)) && decide (l.length ≤ 150)) := by
  induction d with
  | zero =>
    intro i hi
    refine Ev.step (fun k => by rw [laws_short.l0]) ?_
    refine ev_neg (by omega) ?_
    rw [List.drop_of_length_le (by omega)]
    have e : decide ((l.length : Int) ≤ 150) = ([].all (fun s : ByteArray => decide (s.size ≤ 1500)) && decide (l.length ≤ 150)) := by
      rw [List.all_nil, Bool.true_and, decide_eq_decide]
      omega
    rw [← e]
    exact Ev.now _
  | succ d ih =>
    intro i hi
    have hlt : i < l.length := by omega
    have r := rdOf_nat ByteArray.empty l i hlt
    have w := wr i (by omega)
    refine Ev.step (fun k => by rw [laws_short.l0, r, w]) ?_
    refine ev_pos (by omega) (ev_pos (by omega) (ev_pos (by omega) ?_))
    rw [List.drop_eq_getElem_cons hlt, List.all_cons]
    by_cases h : ((l[i].size : Int)) > 1500
    · refine ev_pos h ?_
      have e : decide (l[i].size ≤ 1500) = false := by rw [decide_eq_false_iff_not]; omega
      rw [e]
      exact Ev.now _
    · refine ev_neg h ?_
      have e : decide (l[i].size ≤ 1500) = true := by rw [decide_eq_true_eq]; omega
      rw [e, Bool.true_and]
      exact ih (i + 1) (by omega)
theorem short_ev (l : List ByteArray) (hl : l.length < 4611686018427387904) : Ev (fun k => laws_short.f k l) (shortB l) := short_loop l hl l.length 0 (by omega)
theorem short_sizes {l : List ByteArray} (h : shortB l = true) : ∀ s ∈ l, s.size ≤ 1500 := by
  unfold shortB at h
  rw [Bool.and_eq_true, List.all_eq_true] at h
  intro s hs
  simpa using h.1 s hs
theorem short_len {l : List ByteArray} (h : shortB l = true) : l.length ≤ 150 := by
  unfold shortB at h
  rw [Bool.and_eq_true] at h
  simpa using h.2
end Go.Proofs.YtffcbcihnoaikaaDoor.QE

namespace Go.Proofs.YtffcbcihnoaikaaDoor.QE
open Go.RowKit Go.Proofs.YtffcbcihnoaikaaDoorW.PrintWords Go.Proofs.YtffcbcihnoaikaaDoorW.PrintLast Go.Proofs.YtffcbcihnoaikaaDoor.Pk Go.Proofs.YtffcbcihnoaikaaDoor.Giv
set_option linter.unusedVariables false

def ascB (s : ByteArray) : Bool := s.toList.all (fun c => decide (c.toNat < 128))
theorem ascii_loop (s : ByteArray) (hs : s.size < 4611686018427387904) (d : Nat) : ∀ i : Nat, i + d = s.size → Ev (fun k => spec_Ascii.l0 k s (i : Int)) ((s.toList.drop i).all (fun c => decide (c.toNat < 128))) := by
  induction d with
  | zero =>
    intro i hi
    refine Ev.step (fun k => by rw [spec_Ascii.l0]) ?_
    refine ev_neg (by omega) ?_
    rw [List.drop_of_length_le (by rw [len_toList]; omega)]
    exact Ev.now _
  | succ d ih =>
    intro i hi
    have hlt : i < s.size := by omega
    have b := bt_nat s i hlt
    have w := wr i (by omega)
    refine Ev.step (fun k => by rw [spec_Ascii.l0, b, w]) ?_
    refine ev_pos (by omega) (ev_pos (by omega) ?_)
    rw [drop_at s i hlt, List.all_cons]
    by_cases h : (((s[i]'hlt).toNat : Int)) > 127
    · refine ev_pos h ?_
      rw [show decide ((s[i]'hlt).toNat < 128) = false by rw [decide_eq_false_iff_not]; omega]
      exact Ev.now _
    · refine ev_neg h ?_
      rw [show decide ((s[i]'hlt).toNat < 128) = true by rw [decide_eq_true_eq]; omega, Bool.true_and]
      exact ih (i + 1) (by omega)
theorem ascii_ev (s : ByteArray) (hs : s.size < 4611686018427387904) : Ev (fun k => spec_Ascii.f k s) (ascB s) := ascii_loop s hs s.size 0 (by omega)
end Go.Proofs.YtffcbcihnoaikaaDoor.QE

namespace Go.Proofs.YtffcbcihnoaikaaDoor.QE
open Go.RowKit Go.Proofs.YtffcbcihnoaikaaDoorW.PrintWords Go.Proofs.YtffcbcihnoaikaaDoorW.PrintLast Go.Proofs.YtffcbcihnoaikaaDoor.Pk Go.Proofs.YtffcbcihnoaikaaDoor.Giv
set_option linter.unusedVariables false

theorem indexOf_loop (s : ByteArray) (c : UInt8) (hs : s.size < 4611686018427387904) (d : Nat) : ∀ i : Nat, i + d = s.size → (s.toList.take i).any (fun x => x == c) = false → Ev (fun k => spec_indexOf.l0 k s (c.toNat : Int) (i : Int)) (placeOf (fun x => x == c) s.toList) := by
  induction d with
  | zero =>
    intro i hi hno
    refine Ev.step (fun k => by rw [spec_indexOf.l0]) ?_
    refine ev_neg (by omega) ?_
    rw [List.take_of_length_le (by rw [len_toList]; omega)] at hno
    have e : placeOf (fun x => x == c) s.toList = -1 := by
      unfold placeOf
      rw [hno]
      rfl
    rw [e]
    exact Ev.now _
  | succ d ih =>
    intro i hi hno
    have hlt : i < s.size := by omega
    have b := bt_nat s i hlt
    have w := wr i (by omega)
    refine Ev.step (fun k => by rw [spec_indexOf.l0, b, w]) ?_
    refine ev_pos (by omega) (ev_pos (by omega) ?_)
    by_cases h : (s[i]'hlt) = c
    · refine ev_pos (by rw [h]) ?_
      rw [placeOf_step _ s.toList i (by rw [len_toList]; exact hlt) hno (by rw [getElem_toList s i hlt, h]; simp)]
      exact Ev.now _
    · refine ev_neg (fun e => h (UInt8.toNat_inj.1 (by omega))) ?_
      refine ih (i + 1) (by omega) ?_
      rw [take_next' s i hlt, List.any_append, hno]
      simpa using h
theorem indexOf_ev (s : ByteArray) (c : UInt8) (hs : s.size < 4611686018427387904) : Ev (fun k => spec_indexOf.f k s (c.toNat : Int)) (placeOf (fun x => x == c) s.toList) := indexOf_loop s c hs s.size 0 (by omega) (by simp)
end Go.Proofs.YtffcbcihnoaikaaDoor.QE

namespace Go.Proofs.YtffcbcihnoaikaaDoor.QE
open Go.RowKit Go.Proofs.YtffcbcihnoaikaaDoorW.PrintWords Go.Proofs.YtffcbcihnoaikaaDoorW.PrintLast Go.Proofs.YtffcbcihnoaikaaDoor.Pk Go.Proofs.YtffcbcihnoaikaaDoor.Giv Go.Proofs.YtffcbcihnoaikaaDoor.Ord
set_option linter.unusedVariables false
set_option linter.unusedSimpArgs false

/-- A blank. -/
abbrev blk (c : UInt8) : Bool := Deb.sp c
theorem debBlank_f (c : UInt8) : spec_debBlank.f (c.toNat : Int) = some (blk c) := by
  unfold spec_debBlank.f blk Deb.sp
  by_cases h : (c.toNat : Int) = 32
  · rw [if_pos h, decide_eq_true (by omega)]
  · rw [if_neg h]
    by_cases h2 : (c.toNat : Int) ≥ 9
    · rw [if_pos h2]
      congr 1
      rw [decide_eq_decide]
      omega
    · rw [if_neg h2]
      congr 1
      rw [eq_comm, decide_eq_false_iff_not]
      omega
/-- A text without blanks at its end. -/
def rdw (l : List UInt8) : List UInt8 := (l.reverse.dropWhile blk).reverse
theorem rdw_snoc (r : List UInt8) (c : UInt8) : rdw (r ++ [c]) = if blk c = true then rdw r else r ++ [c] := by
  unfold rdw
  rw [List.reverse_append, List.reverse_cons, List.reverse_nil, List.nil_append, List.singleton_append]
  cases h : blk c with
  | true => rw [List.dropWhile_cons_of_pos h]; rfl
  | false => rw [List.dropWhile_cons_of_neg (by simp [h])]; simp
/-- A text without blanks around. -/
def dtrim (l : List UInt8) : List UInt8 := rdw (l.dropWhile blk)
theorem dtrim_dtr (l : List UInt8) : dtrim l = Deb.dtr l := rfl
theorem trim_l1 (n : Nat) : ∀ l : List UInt8, l.length = n → l.length < 4611686018427387904 → Ev (fun k => spec_debTrim.l1 k (bs l)) (bs (rdw l)) := by
  induction n with
  | zero =>
    intro l hl _
    obtain rfl := List.length_eq_zero_iff.1 hl
    refine Ev.step (fun k => by rw [spec_debTrim.l1, bs_size]) ?_
    refine ev_neg (by simp) ?_
    exact Ev.now _
  | succ n ih =>
    intro l hl hb
    have hne : l ≠ [] := fun e => by rw [e] at hl; simp at hl
    obtain ⟨r, c, rfl⟩ : ∃ r c, l = r ++ [c] := ⟨l.dropLast, l.getLast hne, (List.dropLast_concat_getLast hne).symm⟩
    have hr : r.length = n := by rw [List.length_append, List.length_singleton] at hl; omega
    have w : wrap64 (((r ++ [c]).length : Int) - 1) = (n : Int) := by rw [hl]; unfold wrap64; rw [hl] at hb; omega
    have b : bt (bs (r ++ [c])) (n : Int) = (c.toNat : Int) := by
      have := bs_bt (r ++ [c]) n (by omega)
      rw [this, List.getElem_append_right (by omega)]
      simp [hr]
    refine Ev.step (fun k => by rw [spec_debTrim.l1, bs_size, w, b, debBlank_f]) ?_
    rw [hl]
    refine ev_pos (by omega) (ev_pos (by omega) (ev_pos (by omega) (ev_some ?_)))
    rw [rdw_snoc]
    cases h : blk c with
    | true =>
      refine ev_pos rfl (ev_pos (by omega) ?_)
      rw [Int.toNat_natCast, bs_extHead, List.take_left' hr, if_pos rfl]
      exact ih r hr (by omega)
    | false =>
      rw [if_neg (by simp)]
      exact ev_neg (by simp) (Ev.now _)
theorem trim_l0 (l : List UInt8) : l.length < 4611686018427387904 → Ev (fun k => spec_debTrim.l0 k (bs l)) (bs (dtrim l)) := by
  have fin : ∀ l : List UInt8, l.length < 4611686018427387904 → Ev (fun k => spec_debTrim.j1 k (bs l)) (bs (rdw l)) := fun l hl => by
    refine Ev.step (fun k => by rw [spec_debTrim.j1]) ?_
    exact trim_l1 l.length l rfl hl
  induction l with
  | nil =>
    intro hl
    refine Ev.step (fun k => by rw [spec_debTrim.l0, bs_size]) ?_
    exact ev_neg (by simp) (fin [] hl)
  | cons c r ih =>
    intro hl
    have hr : r.length < 4611686018427387904 := by rw [List.length_cons] at hl; omega
    refine Ev.step (fun k => by rw [spec_debTrim.l0, bs_bt0, debBlank_f, bs_tail, bs_size]) ?_
    refine ev_pos (by rw [List.length_cons]; omega) (ev_pos (by rw [List.length_cons]; omega) (ev_some ?_))
    unfold dtrim
    cases h : blk c with
    | true =>
      rw [List.dropWhile_cons_of_pos h]
      exact ev_pos rfl (ev_pos (by rw [List.length_cons]; omega) (ih hr))
    | false =>
      rw [List.dropWhile_cons_of_neg (by simp [h])]
      exact ev_neg (by simp) (fin (c :: r) hl)
theorem debTrim_ev (l : List UInt8) (hl : l.length < 4611686018427387904) : Ev (fun k => spec_debTrim.f k (bs l)) (bs (dtrim l)) := trim_l0 l hl
theorem rdw_len (l : List UInt8) : (rdw l).length ≤ l.length := by
  unfold rdw
  rw [List.length_reverse]
  exact Nat.le_trans (List.dropWhile_sublist _).length_le (by rw [List.length_reverse]; exact Nat.le_refl _)
theorem dtrim_len (l : List UInt8) : (dtrim l).length ≤ l.length := Nat.le_trans (rdw_len _) (List.dropWhile_sublist _).length_le
theorem place_ge (p : UInt8 → Bool) (l : List UInt8) : decide (placeOf p l ≥ 0) = l.any p := by
  unfold placeOf
  cases h : l.any p with
  | true => rw [if_pos rfl]; simp
  | false => rw [if_neg (by simp)]; rfl
theorem place_lt (p : UInt8 → Bool) (l : List UInt8) : placeOf p l < 0 ↔ l.any p = false := by
  unfold placeOf
  cases h : l.any p with
  | true => rw [if_pos rfl]; simp
  | false => rw [if_neg (by simp)]; simp
/-- A sign ahead of an epoch. -/
def sgn (t : List UInt8) : Bool := (t.head? == some 43 || t.head? == some 45) && t.any (fun x => x == 58)
/-- A text of which it is said what it means. -/
def knownB (l : List UInt8) : Bool := l.all (fun c => decide (c.toNat < 128)) && !(l.any fun c => c == 0) && !sgn (dtrim l)
theorem knownB_okB {l : List UInt8} (h : knownB l = true) (hl : l.length ≤ 40000) : okB l = true := by
  unfold knownB at h
  rw [Bool.and_eq_true, Bool.and_eq_true] at h
  obtain ⟨⟨h1, h2⟩, _⟩ := h
  rw [List.all_eq_true] at h1
  rw [Bool.not_eq_true', List.any_eq_false] at h2
  unfold okB
  rw [Bool.and_eq_true, List.all_eq_true]
  refine ⟨decide_eq_true hl, fun c hc => decide_eq_true ⟨of_decide_eq_true (h1 c hc), fun e => h2 c hc ?_⟩⟩
  rw [beq_iff_eq]
  exact UInt8.toNat_inj.1 e
theorem known_ev (l : List UInt8) (hl : l.length < 4611686018427387904) : Ev (fun k => spec_DebianKnown.f k (bs l)) (knownB l) := by
  have hs : (bs l).size < 4611686018427387904 := by rw [bs_size]; exact hl
  have az := ascii_ev (bs l) hs
  have iz := indexOf_ev (bs l) 0 hs
  rw [bs_toList] at iz
  have ea : QE.ascB (bs l) = l.all (fun c => decide (c.toNat < 128)) := by unfold QE.ascB; rw [bs_toList]
  rw [ea] at az
  have fin : ∀ sg : Bool, sg = sgn (dtrim l) → Ev (fun k => (spec_Ascii.f k (bs l)).bind fun t => if t = true then ((spec_indexOf.f k (bs l) 0).bind fun i => (if i < 0 then some (!sg) else some false)) else some false) (knownB l) := by
    intro sg e
    refine az.bind ?_
    unfold knownB
    rw [← e]
    cases h1 : l.all (fun c => decide (c.toNat < 128)) with
    | false => exact ev_neg (by simp) (by simpa using Ev.now false)
    | true =>
      refine ev_pos rfl (iz.bind ?_)
      cases h2 : l.any (fun c => c == 0) with
      | true => exact ev_neg (fun e => by rw [place_lt, h2] at e; exact absurd e (by simp)) (by simpa using Ev.now false)
      | false => exact ev_pos ((place_lt _ _).2 h2) (by simpa using Ev.now (!sg))
  unfold spec_DebianKnown.f
  refine (debTrim_ev l hl).bind ?_
  have tl := dtrim_len l
  cases ht : dtrim l with
  | nil =>
    rw [bs_size]
    refine ev_neg (by simp) ?_
    exact fin false (by rw [ht]; rfl)
  | cons c r =>
    rw [ht, List.length_cons] at tl
    have ix := indexOf_ev (bs (c :: r)) 58 (by rw [bs_size, List.length_cons]; omega)
    rw [bs_toList] at ix
    rw [bs_size, bs_bt0]
    refine ev_pos (by rw [List.length_cons]; omega) (ev_pos (by rw [List.length_cons]; omega) ?_)
    by_cases h1 : (c.toNat : Int) = 43
    · have hc : c = 43 := UInt8.toNat_inj.1 (by show c.toNat = 43; omega)
      refine ev_pos h1 (ix.bind ?_)
      rw [place_ge]
      exact fin _ (by rw [ht]; unfold sgn; rw [hc]; rfl)
    · refine ev_neg h1 ?_
      by_cases h2 : (c.toNat : Int) = 45
      · have hc : c = 45 := UInt8.toNat_inj.1 (by show c.toNat = 45; omega)
        refine ev_pos h2 (ix.bind ?_)
        rw [place_ge]
        exact fin _ (by rw [ht]; unfold sgn; rw [hc]; rfl)
      · refine ev_neg h2 ?_
        refine fin false ?_
        rw [ht]
        unfold sgn
        have n1 : ((c :: r).head? == some (43 : UInt8)) = false := beq_eq_false_iff_ne.2 (fun e => h1 (by injection e with e; rw [e]; rfl))
        have n2 : ((c :: r).head? == some (45 : UInt8)) = false := beq_eq_false_iff_ne.2 (fun e => h2 (by injection e with e; rw [e]; rfl))
        rw [n1, n2]
        rfl
end Go.Proofs.YtffcbcihnoaikaaDoor.QE

namespace Go.Proofs.YtffcbcihnoaikaaDoor.QE
open Go.RowKit Go.Proofs.YtffcbcihnoaikaaDoorW.PrintWords Go.Proofs.YtffcbcihnoaikaaDoorW.PrintLast Go.Proofs.YtffcbcihnoaikaaDoor.Pk Go.Proofs.YtffcbcihnoaikaaDoor.Giv Go.Proofs.YtffcbcihnoaikaaDoor.Ord
set_option linter.unusedVariables false

theorem isDigit_f (c : UInt8) : spec_isDigit.f (c.toNat : Int) = some (Rpm.dig c) := by
  unfold spec_isDigit.f Rpm.dig
  by_cases h : (c.toNat : Int) ≥ 48
  · rw [if_pos h]
    congr 1
    rw [decide_eq_decide]
    omega
  · rw [if_neg h]
    congr 1
    rw [eq_comm, decide_eq_false_iff_not]
    omega
theorem allDigits_loop (s : ByteArray) (hs : s.size < 4611686018427387904) (d : Nat) : ∀ i : Nat, i + d = s.size → Ev (fun k => spec_allDigits.l0 k s (i : Int)) ((s.toList.drop i).all Rpm.dig && decide (s.size > 0)) := by
  induction d with
  | zero =>
    intro i hi
    refine Ev.step (fun k => by rw [spec_allDigits.l0]) ?_
    refine ev_neg (by omega) ?_
    rw [List.drop_of_length_le (by rw [len_toList]; omega), List.all_nil, Bool.true_and]
    have e : decide ((s.size : Int) > 0) = decide (s.size > 0) := by rw [decide_eq_decide]; omega
    rw [← e]
    exact Ev.now _
  | succ d ih =>
    intro i hi
    have hlt : i < s.size := by omega
    have w := wr i (by omega)
    refine Ev.step (fun k => by rw [spec_allDigits.l0, bt_nat s i hlt, w, isDigit_f]) ?_
    refine ev_pos (by omega) (ev_pos (by omega) (ev_some ?_))
    rw [drop_at s i hlt, List.all_cons]
    cases hd : Rpm.dig (s[i]'hlt) with
    | true => exact ev_pos rfl (ih (i + 1) (by omega))
    | false => exact ev_neg (by simp) (Ev.now _)
theorem allDigits_ev (s : ByteArray) (hs : s.size < 4611686018427387904) : Ev (fun k => spec_allDigits.f k s) (Num.digits s.toList) := by
  unfold spec_allDigits.f
  have := allDigits_loop s hs s.size 0 (by omega)
  have e : ((s.toList.drop 0).all Rpm.dig && decide (s.size > 0)) = Num.digits s.toList := by
    unfold Num.digits
    rw [List.drop_zero, Bool.and_comm]
    congr 1
    rw [Bool.eq_iff_iff, ← len_toList]
    simp [List.length_pos_iff]
  rw [← e]
  exact this
end Go.Proofs.YtffcbcihnoaikaaDoor.QE

namespace Go.Proofs.YtffcbcihnoaikaaDoor.QE
open Go.RowKit Go.Proofs.YtffcbcihnoaikaaDoorW.PrintWords Go.Proofs.YtffcbcihnoaikaaDoorW.PrintLast Go.Proofs.YtffcbcihnoaikaaDoor.Pk Go.Proofs.YtffcbcihnoaikaaDoor.Giv Go.Proofs.YtffcbcihnoaikaaDoor.Ord
set_option linter.unusedVariables false

theorem pi_tail (s : ByteArray) (h : 0 < s.size) : s.toList = s[0]'h :: (s.extract 1 s.size).toList := by
  rw [ext_all]
  have := drop_at s 0 h
  simpa using this
def wi (l : List Nat) : List Int := l.map Int.ofNat
theorem wi_len (l : List Nat) : (wi l).length = l.length := by simp [wi]
theorem wi_rd (p : List Nat) (x : Nat) (r : List Nat) : rd (wi (p ++ x :: r)) (p.length : Int) = (x : Int) := by
  rw [rd_nat _ _ (by rw [wi_len]; simp)]
  simp [wi]
theorem wi_set (p : List Nat) (x : Nat) (r : List Nat) (y : Nat) : (wi (p ++ x :: r)).set p.length (y : Int) = wi (p ++ y :: r) := by
  unfold wi
  rw [List.map_append, List.map_cons, List.set_append_right _ _ (by simp), List.length_map, Nat.sub_self, List.map_append, List.map_cons]
  rfl
theorem io_step (c x : Nat) (hc : c ≤ 9) (hx : x < 256) : (Int.tmod (wrap64 ((c : Int) + (wrap64 (10 * (wrap64 (x : Int)))))) 256) % 256 = (((c + 10 * x) % 256 : Nat) : Int) ∧ wrap64 (Int.tdiv (wrap64 ((c : Int) + (wrap64 (10 * (wrap64 (x : Int)))))) 256) = (((c + 10 * x) / 256 : Nat) : Int) := by
  have w1 : wrap64 (x : Int) = x := by unfold wrap64; omega
  have w2 : wrap64 (10 * (x : Int)) = 10 * x := by unfold wrap64; omega
  have w3 : wrap64 ((c : Int) + 10 * x) = ((c + 10 * x : Nat) : Int) := by unfold wrap64; omega
  rw [w1, w2, w3]
  have a : Int.tmod ((c + 10 * x : Nat) : Int) 256 = (((c + 10 * x) % 256 : Nat) : Int) := Int.ofNat_tmod _ _ |>.symm
  have b : Int.tdiv ((c + 10 * x : Nat) : Int) 256 = (((c + 10 * x) / 256 : Nat) : Int) := Int.ofNat_tdiv _ _ |>.symm
  rw [a, b]
  refine ⟨by omega, by unfold wrap64; omega⟩
theorem io_l1 (s : ByteArray) (i : Nat) (V : Bool × ByteArray) (r : List Nat) : ∀ (p : List Nat) (c : Nat), c ≤ 9 → (∀ x ∈ r, x < 256) → p.length + r.length < 100000 → Ev (fun k => spec_intOf.l0 k s (wi (p ++ Lb.ma c r)) (wrap64 ((i : Int) + 1))) V → Ev (fun k => spec_intOf.l1 k s (wi (p ++ r)) (i : Int) (c : Int) (p.length : Int)) V := by
  induction r with
  | nil =>
    intro p c hc _ hl nx
    rw [List.append_nil]
    refine Ev.step (fun k => by rw [spec_intOf.l1]) ?_
    refine ev_neg (by rw [wi_len]; omega) ?_
    rw [Lb.ma] at nx
    by_cases hz : c = 0
    · rw [if_pos hz, List.append_nil] at nx
      exact ev_neg (by omega) nx
    · rw [if_neg hz] at nx
      refine ev_pos (by omega) (ev_pos (by rw [wi_len]; omega) ?_)
      have e : wi p ++ [(c : Int) % 256] = wi (p ++ [c]) := by
        unfold wi
        rw [List.map_append, show (c : Int) % 256 = (c : Int) by omega]
        rfl
      rw [e]
      exact nx
  | cons x r ih =>
    intro p c hc hs hl nx
    have hx := hs x List.mem_cons_self
    have w := wr p.length (by simp at hl; omega)
    obtain ⟨a, b⟩ := io_step c x hc hx
    have z := ih (p ++ [(c + 10 * x) % 256]) ((c + 10 * x) / 256) (by omega) (fun y hy => hs y (List.mem_cons_of_mem _ hy)) (by simp at hl ⊢; omega) (by
      rw [Lb.ma] at nx
      rw [List.append_assoc]
      exact nx)
    rw [List.append_assoc, List.length_append, List.length_singleton] at z
    refine Ev.step (fun k => by rw [spec_intOf.l1, wi_rd, a, b, w, Int.toNat_natCast, wi_set]) ?_
    refine ev_pos (by rw [wi_len]; simp; omega) (ev_pos (by omega) ?_)
    exact z
theorem io_l2 (l : List Nat) (hl : l.length < 100000) (d : Nat) : ∀ j : Nat, j + d = l.length → Ev (fun k => spec_intOf.l2 k (wi l) (wi (List.replicate (l.length - j) 0 ++ (l.take j).reverse)) (j : Int)) (false, strOfNums (wi l.reverse)) := by
  induction d with
  | zero =>
    intro j hj
    refine Ev.step (fun k => by rw [spec_intOf.l2]) ?_
    refine ev_neg (by rw [wi_len]; omega) ?_
    rw [show l.length - j = 0 by omega, List.replicate_zero, List.nil_append, List.take_of_length_le (by omega)]
    exact Ev.now _
  | succ d ih =>
    intro j hj
    have hlt : j < l.length := by omega
    have w := wr j (by omega)
    have w1 : wrap64 ((wrap64 (((wi l).length : Int) - 1)) - (j : Int)) = ((l.length - 1 - j : Nat) : Int) := by
      rw [wi_len]
      unfold wrap64
      omega
    have r : rd (wi l) (j : Int) = ((l[j]'hlt : Nat) : Int) := by
      rw [rd_nat _ _ (by rw [wi_len]; exact hlt)]
      simp [wi]
    have e : (wi (List.replicate (l.length - j) 0 ++ (l.take j).reverse)).set (l.length - 1 - j) ((l[j]'hlt : Nat) : Int) = wi (List.replicate (l.length - (j + 1)) 0 ++ (l.take (j + 1)).reverse) := by
      have q := wi_set (List.replicate (l.length - (j + 1)) 0) 0 (l.take j).reverse (l[j]'hlt)
      rw [List.length_replicate] at q
      rw [show l.length - j = (l.length - (j + 1)) + 1 by omega, List.replicate_succ', List.append_assoc, List.take_succ_eq_append_getElem hlt, List.reverse_append, show l.length - 1 - j = l.length - (j + 1) by omega]
      exact q
    have z := ih (j + 1) (by omega)
    refine Ev.step (fun k => by rw [spec_intOf.l2, w1, r, w, Int.toNat_natCast, e]) ?_
    refine ev_pos (by rw [wi_len]; omega) (ev_pos (by omega) (ev_pos (by omega) (ev_pos ?_ z)))
    rw [wi_len, List.length_append, List.length_replicate, List.length_reverse, List.length_take]
    omega
theorem strOf_mag (n : Nat) : strOfNums (wi (Lb.lb n).reverse) = bs (Lb.mag n) := by
  unfold strOfNums bs Lb.mag wi
  rw [List.map_map]
  rfl
theorem io_l0 (s : ByteArray) (hs : s.size ≤ 40000) (ha : s.toList.all Rpm.dig = true) (d : Nat) : ∀ i : Nat, i + d = s.size → Ev (fun k => spec_intOf.l0 k s (wi (Lb.lb (Num.dec (s.toList.take i)))) (i : Int)) (false, bs (Lb.mag (Num.dec s.toList))) := by
  have len : ∀ i, (Lb.lb (Num.dec (s.toList.take i))).length ≤ 40000 := by
    intro i
    have h := Num.dec_lt (s.toList.take i) (by
      rw [List.all_eq_true] at ha ⊢
      intro x hx
      exact ha x (List.mem_of_mem_take hx))
    have := Lb.lb_len _ _ h
    rw [List.length_take, len_toList] at this
    omega
  induction d with
  | zero =>
    intro i hi
    have l := len i
    rw [List.take_of_length_le (by rw [len_toList]; omega)] at l ⊢
    refine Ev.step (fun k => by rw [spec_intOf.l0]) ?_
    refine ev_neg (by omega) (ev_pos (by omega) (ev_pos (by rw [wi_len]; omega) ?_))
    have := io_l2 (Lb.lb (Num.dec s.toList)) (by omega) _ 0 (Nat.zero_add _)
    rw [strOf_mag] at this
    have e : List.replicate (((wi (Lb.lb (Num.dec s.toList))).length : Int)).toNat (0 : Int) = wi (List.replicate ((Lb.lb (Num.dec s.toList)).length - 0) 0 ++ ((Lb.lb (Num.dec s.toList)).take 0).reverse) := by
      rw [Int.toNat_natCast, wi_len]
      simp [wi]
    rw [e]
    exact this
  | succ d ih =>
    intro i hi
    have hlt : i < s.size := by omega
    have l := len i
    have hd : Rpm.dig (s[i]'hlt) = true := by
      rw [List.all_eq_true] at ha
      exact ha _ (by rw [← getElem_toList s i hlt]; exact List.getElem_mem _)
    have hd' : 48 ≤ (s[i]'hlt).toNat ∧ (s[i]'hlt).toNat ≤ 57 := by simpa [Rpm.dig] using hd
    have z := ih (i + 1) (by omega)
    rw [take_next' s i hlt, Num.dec_snoc, Nat.mul_comm, ← Lb.ma_lb _ _ (by omega)] at z
    have w := wr i (by omega)
    rw [← w] at z
    have e : ((((s[i]'hlt).toNat : Int) - 48) % 256) = (((s[i]'hlt).toNat - 48 : Nat) : Int) := by omega
    refine Ev.step (fun k => by rw [spec_intOf.l0, bt_nat s i hlt, e]) ?_
    refine ev_pos (by omega) (ev_pos (by omega) ?_)
    exact io_l1 s i _ _ [] _ (by omega) (Lb.lb_small _) (by simp; omega) z
theorem intOf_ev (s : ByteArray) (hs : s.size ≤ 40000) (ha : s.toList.all Rpm.dig = true) : Ev (fun k => spec_intOf.f k s) (false, bs (Lb.mag (Num.dec s.toList))) := by
  have := io_l0 s hs ha _ 0 (Nat.zero_add _)
  rw [List.take_zero, Num.dec_nil, Lb.lb_zero] at this
  exact this
/-- A number as the program tells it. -/
def told (z : Int) : Bool × ByteArray := (decide (z < 0), bs (Lb.mag z.natAbs))
theorem sn_j1 (s : ByteArray) (hs : s.size ≤ 40000) (neg : Bool) : Ev (fun k => spec_Number.j1 k s neg) (if Num.digits s.toList then ((told (if neg then -(Num.dec s.toList : Int) else (Num.dec s.toList : Int))).1, (told (if neg then -(Num.dec s.toList : Int) else (Num.dec s.toList : Int))).2, true) else (false, ⟨#[]⟩, false)) := by
  refine Ev.step (fun k => by rw [spec_Number.j1]) ?_
  refine (allDigits_ev s (by omega)).bind ?_
  cases hd : Num.digits s.toList with
  | false => exact ev_neg (by simp) (Ev.now _)
  | true =>
    have ha : s.toList.all Rpm.dig = true := by unfold Num.digits at hd; rw [Bool.and_eq_true] at hd; exact hd.2
    refine ev_pos rfl ((intOf_ev s hs ha).bind ?_)
    simp only [if_true, told]
    cases neg with
    | false =>
      refine ev_neg (by simp) ?_
      simp only [Bool.false_eq_true, if_false, Int.natAbs_natCast]
      rw [decide_eq_false (by omega)]
      exact Ev.now _
    | true =>
      refine ev_pos rfl ?_
      simp only [if_true, Int.natAbs_neg, Int.natAbs_natCast]
      have e : ((bs (Lb.mag (Num.dec s.toList))).toList != ([] : List UInt8)) = decide (-(Num.dec s.toList : Int) < 0) := by
        rw [bs_toList, Bool.eq_iff_iff]
        simp only [bne_iff_ne, ne_eq, decide_eq_true_eq]
        constructor
        · intro h
          have : Num.dec s.toList ≠ 0 := fun e => h (by rw [e, Lb.mag_zero])
          omega
        · intro h e
          have := Lb.mag_nil e
          omega
      rw [e]
      exact Ev.now _
/-- The reference reads a number as the plain function does. -/
theorem specNumber_ev (s : ByteArray) (hs : s.size ≤ 40000) : Ev (fun k => spec_Number.f k s) (match Num.parse s.toList with | some z => ((told z).1, (told z).2, true) | none => (false, ⟨#[]⟩, false)) := by
  have fin : ∀ (t : ByteArray) (neg : Bool), t.size ≤ 40000 → Num.cutSign s.toList = (neg, t.toList) → Ev (fun k => spec_Number.j1 k t neg) (match Num.parse s.toList with | some z => ((told z).1, (told z).2, true) | none => (false, ⟨#[]⟩, false)) := by
    intro t neg ht hc
    have := sn_j1 t ht neg
    unfold Num.parse
    rw [hc]
    cases hd : Num.digits t.toList <;> (rw [hd] at this; exact this)
  unfold spec_Number.f
  by_cases h : (s.size : Int) > 0
  · have h0 : 0 < s.size := by omega
    have et := pi_tail s h0
    have b0 : bt s 0 = ((s[0]'h0).toNat : Int) := bt_nat s 0 h0
    have hx : (s.extract 1 s.size).size ≤ 40000 := by rw [ByteArray.size_extract]; omega
    refine ev_pos h (ev_pos (by omega) ?_)
    rw [b0]
    by_cases c43 : ((s[0]'h0).toNat : Int) = 43
    · refine ev_pos c43 ?_
      refine Ev.step (fun k => by rw [spec_Number.j0]) ?_
      rw [b0]
      refine ev_pos rfl (ev_pos (by omega) (ev_pos (by omega) ?_))
      have e : (((s[0]'h0).toNat : Int) == 45) = false := beq_eq_false_iff_ne.2 (by omega)
      rw [e]
      refine fin _ false hx ?_
      rw [et]
      unfold Num.cutSign
      simp only
      rw [if_neg (by omega), if_pos (by omega)]
    · refine ev_neg c43 ?_
      by_cases c45 : ((s[0]'h0).toNat : Int) = 45
      · have e : (((s[0]'h0).toNat : Int) == 45) = true := beq_iff_eq.2 c45
        rw [e]
        refine Ev.step (fun k => by rw [spec_Number.j0]) ?_
        rw [b0, e]
        refine ev_pos rfl (ev_pos (by omega) (ev_pos (by omega) ?_))
        refine fin _ true hx ?_
        rw [et]
        unfold Num.cutSign
        simp only
        rw [if_pos (by omega)]
      · have e : (((s[0]'h0).toNat : Int) == 45) = false := beq_eq_false_iff_ne.2 c45
        rw [e]
        refine Ev.step (fun k => by rw [spec_Number.j0]) ?_
        refine ev_neg (by simp) ?_
        refine fin s false hs ?_
        conv => lhs; rw [et]
        unfold Num.cutSign
        simp only
        rw [if_neg (by omega), if_neg (by omega), ← et]
  · refine ev_neg h ?_
    refine Ev.step (fun k => by rw [spec_Number.j0]) ?_
    refine ev_neg (by simp) ?_
    refine fin s false hs ?_
    have e : s.toList = [] := List.length_eq_zero_iff.1 (by rw [len_toList]; omega)
    rw [e]
    rfl
end Go.Proofs.YtffcbcihnoaikaaDoor.QE
