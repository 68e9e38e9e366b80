/- 'short': of lists of texts.
   'Ascii' of the reference.
   'indexOf' of the reference.
   What the reference answers of Debian's texts: blanks around, what is known, parts compared.
   'plain' of a text: letters, digits and some more characters, one at least.
   Texts of letters, digits and a few marks alone, as Debian's versions read them. -/
import Derived.Test.YtffcbcihnoaikaaDoorZD
import Derived.Test.YtffcbcihnoaikaaDoorQBx
import Derived.Test.YtffcbcihnoaikaaDoorZY
import Derived.Test.YtffcbcihnoaikaaDoorZV
namespace Go.Proofs.YtffcbcihnoaikaaDoor.QB
open Go.RowKit Go.Proofs.YtffcbcihnoaikaaDoorW.PrintWords Go.Proofs.YtffcbcihnoaikaaDoorW.PrintLast Go.Proofs.YtffcbcihnoaikaaDoor.Pk Go.Proofs.YtffcbcihnoaikaaDoor.Giv
set_option linter.unusedVariables false

/-- Are all texts short, and not many of them? -/
def shortB (l : List ByteArray) : Bool := l.all (fun s => decide (s.size ≤ 1500)) && decide (l.length ≤ 150)
theorem short_loop (l : List ByteArray) (hl : l.length < 4611686018427387904) (d : Nat) : ∀ i : Nat, i + d = l.length → Ev (fun k => laws_short.l0 k l l (l.length : Int) (i : Int)) ((l.drop i).all (fun s => decide (s.size ≤ 1500)) && decide (l.length ≤ 150)) := by
  induction d with
  | zero =>
    intro i hi
    refine Ev.step (fun k => by rw [laws_short.l0]) ?_
    refine ev_neg (by omega) ?_
    rw [List.drop_of_length_le (by omega)]
    have e : decide ((l.length : Int) ≤ 150) = ([].all (fun s : ByteArray => decide (s.size ≤ 1500)) && decide (l.length ≤ 150)) := by
      rw [List.all_nil, Bool.true_and, decide_eq_decide]
      omega
    rw [← e]
    exact Ev.now _
  | succ d ih =>
    intro i hi
    have hlt : i < l.length := by omega
    have r := rdOf_nat ByteArray.empty l i hlt
    have w := wr i (by omega)
    refine Ev.step (fun k => by rw [laws_short.l0, r, w]) ?_
    refine ev_pos (by omega) (ev_pos (by omega) (ev_pos (by omega) ?_))
    rw [List.drop_eq_getElem_cons hlt, List.all_cons]
    by_cases h : ((l[i].size : Int)) > 1500
    · refine ev_pos h ?_
      have e : decide (l[i].size ≤ 1500) = false := by rw [decide_eq_false_iff_not]; omega
      rw [e]
      exact Ev.now _
    · refine ev_neg h ?_
      have e : decide (l[i].size ≤ 1500) = true := by rw [decide_eq_true_eq]; omega
      rw [e, Bool.true_and]
      exact ih (i + 1) (by omega)
theorem short_ev (l : List ByteArray) (hl : l.length < 4611686018427387904) : Ev (fun k => laws_short.f k l) (shortB l) := short_loop l hl l.length 0 (by omega)
theorem short_sizes {l : List ByteArray} (h : shortB l = true) : ∀ s ∈ l, s.size ≤ 1500 := by
  unfold shortB at h
  rw [Bool.and_eq_true, List.all_eq_true] at h
  intro s hs
  simpa using h.1 s hs
theorem short_len {l : List ByteArray} (h : shortB l = true) : l.length ≤ 150 := by
  unfold shortB at h
  rw [Bool.and_eq_true] at h
  simpa using h.2
end Go.Proofs.YtffcbcihnoaikaaDoor.QB

namespace Go.Proofs.YtffcbcihnoaikaaDoor.QB
open Go.RowKit Go.Proofs.YtffcbcihnoaikaaDoorW.PrintWords Go.Proofs.YtffcbcihnoaikaaDoorW.PrintLast Go.Proofs.YtffcbcihnoaikaaDoor.Pk Go.Proofs.YtffcbcihnoaikaaDoor.Giv
set_option linter.unusedVariables false

def ascB (s : ByteArray) : Bool := s.toList.all (fun c => decide (c.toNat < 128))
theorem ascii_loop (s : ByteArray) (hs : s.size < 4611686018427387904) (d : Nat) : ∀ i : Nat, i + d = s.size → Ev (fun k => spec_Ascii.l0 k s (i : Int)) ((s.toList.drop i).all (fun c => decide (c.toNat < 128))) := by
  induction d with
  | zero =>
    intro i hi
    refine Ev.step (fun k => by rw [spec_Ascii.l0]) ?_
    refine ev_neg (by omega) ?_
    rw [List.drop_of_length_le (by rw [len_toList]; omega)]
    exact Ev.now _
  | succ d ih =>
    intro i hi
    have hlt : i < s.size := by omega
    have b := bt_nat s i hlt
    have w := wr i (by omega)
    refine Ev.step (fun k => by rw [spec_Ascii.l0, b, w]) ?_
    refine ev_pos (by omega) (ev_pos (by omega) ?_)
    rw [drop_at s i hlt, List.all_cons]
    by_cases h : (((s[i]'hlt).toNat : Int)) > 127
    · refine ev_pos h ?_
      rw [show decide ((s[i]'hlt).toNat < 128) = false by rw [decide_eq_false_iff_not]; omega]
      exact Ev.now _
    · refine ev_neg h ?_
      rw [show decide ((s[i]'hlt).toNat < 128) = true by rw [decide_eq_true_eq]; omega, Bool.true_and]
      exact ih (i + 1) (by omega)
theorem ascii_ev (s : ByteArray) (hs : s.size < 4611686018427387904) : Ev (fun k => spec_Ascii.f k s) (ascB s) := ascii_loop s hs s.size 0 (by omega)
end Go.Proofs.YtffcbcihnoaikaaDoor.QB

namespace Go.Proofs.YtffcbcihnoaikaaDoor.QB
open Go.RowKit Go.Proofs.YtffcbcihnoaikaaDoorW.PrintWords Go.Proofs.YtffcbcihnoaikaaDoorW.PrintLast Go.Proofs.YtffcbcihnoaikaaDoor.Pk Go.Proofs.YtffcbcihnoaikaaDoor.Giv
set_option linter.unusedVariables false

theorem indexOf_loop (s : ByteArray) (c : UInt8) (hs : s.size < 4611686018427387904) (d : Nat) : ∀ i : Nat, i + d = s.size → (s.toList.take i).any (fun x => x == c) = false → Ev (fun k => spec_indexOf.l0 k s (c.toNat : Int) (i : Int)) (placeOf (fun x => x == c) s.toList) := by
  induction d with
  | zero =>
    intro i hi hno
    refine Ev.step (fun k => by rw [spec_indexOf.l0]) ?_
    refine ev_neg (by omega) ?_
    rw [List.take_of_length_le (by rw [len_toList]; omega)] at hno
    have e : placeOf (fun x => x == c) s.toList = -1 := by
      unfold placeOf
      rw [hno]
      rfl
    rw [e]
    exact Ev.now _
  | succ d ih =>
    intro i hi hno
    have hlt : i < s.size := by omega
    have b := bt_nat s i hlt
    have w := wr i (by omega)
    refine Ev.step (fun k => by rw [spec_indexOf.l0, b, w]) ?_
    refine ev_pos (by omega) (ev_pos (by omega) ?_)
    by_cases h : (s[i]'hlt) = c
    · refine ev_pos (by rw [h]) ?_
      rw [placeOf_step _ s.toList i (by rw [len_toList]; exact hlt) hno (by rw [getElem_toList s i hlt, h]; simp)]
      exact Ev.now _
    · refine ev_neg (fun e => h (UInt8.toNat_inj.1 (by omega))) ?_
      refine ih (i + 1) (by omega) ?_
      rw [take_next' s i hlt, List.any_append, hno]
      simpa using h
theorem indexOf_ev (s : ByteArray) (c : UInt8) (hs : s.size < 4611686018427387904) : Ev (fun k => spec_indexOf.f k s (c.toNat : Int)) (placeOf (fun x => x == c) s.toList) := indexOf_loop s c hs s.size 0 (by omega) (by simp)
end Go.Proofs.YtffcbcihnoaikaaDoor.QB

namespace Go.Proofs.YtffcbcihnoaikaaDoor.QB
open Go.RowKit Go.Proofs.YtffcbcihnoaikaaDoorW.PrintWords Go.Proofs.YtffcbcihnoaikaaDoorW.PrintLast Go.Proofs.YtffcbcihnoaikaaDoor.Pk Go.Proofs.YtffcbcihnoaikaaDoor.Giv Go.Proofs.YtffcbcihnoaikaaDoor.Ord
set_option linter.unusedVariables false
set_option linter.unusedSimpArgs false

/-- A blank. -/
abbrev blk (c : UInt8) : Bool := Deb.sp c
theorem debBlank_f (c : UInt8) : spec_debBlank.f (c.toNat : Int) = some (blk c) := by
  unfold spec_debBlank.f blk Deb.sp
  by_cases h : (c.toNat : Int) = 32
  · rw [if_pos h, decide_eq_true (by omega)]
  · rw [if_neg h]
    by_cases h2 : (c.toNat : Int) ≥ 9
    · rw [if_pos h2]
      congr 1
      rw [decide_eq_decide]
      omega
    · rw [if_neg h2]
      congr 1
      rw [eq_comm, decide_eq_false_iff_not]
      omega
/-- A text without blanks at its end. -/
def rdw (l : List UInt8) : List UInt8 := (l.reverse.dropWhile blk).reverse
theorem rdw_snoc (r : List UInt8) (c : UInt8) : rdw (r ++ [c]) = if blk c = true then rdw r else r ++ [c] := by
  unfold rdw
  rw [List.reverse_append, List.reverse_cons, List.reverse_nil, List.nil_append, List.singleton_append]
  cases h : blk c with
  | true => rw [List.dropWhile_cons_of_pos h]; rfl
  | false => rw [List.dropWhile_cons_of_neg (by simp [h])]; simp
/-- A text without blanks around. -/
def dtrim (l : List UInt8) : List UInt8 := rdw (l.dropWhile blk)
theorem dtrim_dtr (l : List UInt8) : dtrim l = Deb.dtr l := rfl
theorem trim_l1 (n : Nat) : ∀ l : List UInt8, l.length = n → l.length < 4611686018427387904 → Ev (fun k => spec_debTrim.l1 k (bs l)) (bs (rdw l)) := by
  induction n with
  | zero =>
    intro l hl _
    obtain rfl := List.length_eq_zero_iff.1 hl
    refine Ev.step (fun k => by rw [spec_debTrim.l1, bs_size]) ?_
    refine ev_neg (by simp) ?_
    exact Ev.now _
  | succ n ih =>
    intro l hl hb
    have hne : l ≠ [] := fun e => by rw [e] at hl; simp at hl
    obtain ⟨r, c, rfl⟩ : ∃ r c, l = r ++ [c] := ⟨l.dropLast, l.getLast hne, (List.dropLast_concat_getLast hne).symm⟩
    have hr : r.length = n := by rw [List.length_append, List.length_singleton] at hl; omega
    have w : wrap64 (((r ++ [c]).length : Int) - 1) = (n : Int) := by rw [hl]; unfold wrap64; rw [hl] at hb; omega
    have b : bt (bs (r ++ [c])) (n : Int) = (c.toNat : Int) := by
      have := bs_bt (r ++ [c]) n (by omega)
      rw [this, List.getElem_append_right (by omega)]
      simp [hr]
    refine Ev.step (fun k => by rw [spec_debTrim.l1, bs_size, w, b, debBlank_f]) ?_
    rw [hl]
    refine ev_pos (by omega) (ev_pos (by omega) (ev_pos (by omega) (ev_some ?_)))
    rw [rdw_snoc]
    cases h : blk c with
    | true =>
      refine ev_pos rfl (ev_pos (by omega) ?_)
      rw [Int.toNat_natCast, bs_extHead, List.take_left' hr, if_pos rfl]
      exact ih r hr (by omega)
    | false =>
      rw [if_neg (by simp)]
      exact ev_neg (by simp) (Ev.now _)
theorem trim_l0 (l : List UInt8) : l.length < 4611686018427387904 → Ev (fun k => spec_debTrim.l0 k (bs l)) (bs (dtrim l)) := by
  have fin : ∀ l : List UInt8, l.length < 4611686018427387904 → Ev (fun k => spec_debTrim.j1 k (bs l)) (bs (rdw l)) := fun l hl => by
    refine Ev.step (fun k => by rw [spec_debTrim.j1]) ?_
    exact trim_l1 l.length l rfl hl
  induction l with
  | nil =>
    intro hl
    refine Ev.step (fun k => by rw [spec_debTrim.l0, bs_size]) ?_
    exact ev_neg (by simp) (fin [] hl)
  | cons c r ih =>
    intro hl
    have hr : r.length < 4611686018427387904 := by rw [List.length_cons] at hl; omega
    refine Ev.step (fun k => by rw [spec_debTrim.l0, bs_bt0, debBlank_f, bs_tail, bs_size]) ?_
    refine ev_pos (by rw [List.length_cons]; omega) (ev_pos (by rw [List.length_cons]; omega) (ev_some ?_))
    unfold dtrim
    cases h : blk c with
    | true =>
      rw [List.dropWhile_cons_of_pos h]
      exact ev_pos rfl (ev_pos (by rw [List.length_cons]; omega) (ih hr))
    | false =>
      rw [List.dropWhile_cons_of_neg (by simp [h])]
      exact ev_neg (by simp) (fin (c :: r) hl)
theorem debTrim_ev (l : List UInt8) (hl : l.length < 4611686018427387904) : Ev (fun k => spec_debTrim.f k (bs l)) (bs (dtrim l)) := trim_l0 l hl
theorem rdw_len (l : List UInt8) : (rdw l).length ≤ l.length := by
  unfold rdw
  rw [List.length_reverse]
  exact Nat.le_trans (List.dropWhile_sublist _).length_le (by rw [List.length_reverse]; exact Nat.le_refl _)
theorem dtrim_len (l : List UInt8) : (dtrim l).length ≤ l.length := Nat.le_trans (rdw_len _) (List.dropWhile_sublist _).length_le
theorem place_ge (p : UInt8 → Bool) (l : List UInt8) : decide (placeOf p l ≥ 0) = l.any p := by
  unfold placeOf
  cases h : l.any p with
  | true => rw [if_pos rfl]; simp
  | false => rw [if_neg (by simp)]; rfl
theorem place_lt (p : UInt8 → Bool) (l : List UInt8) : placeOf p l < 0 ↔ l.any p = false := by
  unfold placeOf
  cases h : l.any p with
  | true => rw [if_pos rfl]; simp
  | false => rw [if_neg (by simp)]; simp
/-- A sign ahead of an epoch. -/
def sgn (t : List UInt8) : Bool := (t.head? == some 43 || t.head? == some 45) && t.any (fun x => x == 58)
/-- A text of which it is said what it means. -/
def knownB (l : List UInt8) : Bool := l.all (fun c => decide (c.toNat < 128)) && !(l.any fun c => c == 0) && !sgn (dtrim l)
theorem knownB_okB {l : List UInt8} (h : knownB l = true) (hl : l.length ≤ 40000) : okB l = true := by
  unfold knownB at h
  rw [Bool.and_eq_true, Bool.and_eq_true] at h
  obtain ⟨⟨h1, h2⟩, _⟩ := h
  rw [List.all_eq_true] at h1
  rw [Bool.not_eq_true', List.any_eq_false] at h2
  unfold okB
  rw [Bool.and_eq_true, List.all_eq_true]
  refine ⟨decide_eq_true hl, fun c hc => decide_eq_true ⟨of_decide_eq_true (h1 c hc), fun e => h2 c hc ?_⟩⟩
  rw [beq_iff_eq]
  exact UInt8.toNat_inj.1 e
theorem known_ev (l : List UInt8) (hl : l.length < 4611686018427387904) : Ev (fun k => spec_DebianKnown.f k (bs l)) (knownB l) := by
  have hs : (bs l).size < 4611686018427387904 := by rw [bs_size]; exact hl
  have az := ascii_ev (bs l) hs
  have iz := indexOf_ev (bs l) 0 hs
  rw [bs_toList] at iz
  have ea : QB.ascB (bs l) = l.all (fun c => decide (c.toNat < 128)) := by unfold QB.ascB; rw [bs_toList]
  rw [ea] at az
  have fin : ∀ sg : Bool, sg = sgn (dtrim l) → Ev (fun k => (spec_Ascii.f k (bs l)).bind fun t => if t = true then ((spec_indexOf.f k (bs l) 0).bind fun i => (if i < 0 then some (!sg) else some false)) else some false) (knownB l) := by
    intro sg e
    refine az.bind ?_
    unfold knownB
    rw [← e]
    cases h1 : l.all (fun c => decide (c.toNat < 128)) with
    | false => exact ev_neg (by simp) (by simpa using Ev.now false)
    | true =>
      refine ev_pos rfl (iz.bind ?_)
      cases h2 : l.any (fun c => c == 0) with
      | true => exact ev_neg (fun e => by rw [place_lt, h2] at e; exact absurd e (by simp)) (by simpa using Ev.now false)
      | false => exact ev_pos ((place_lt _ _).2 h2) (by simpa using Ev.now (!sg))
  unfold spec_DebianKnown.f
  refine (debTrim_ev l hl).bind ?_
  have tl := dtrim_len l
  cases ht : dtrim l with
  | nil =>
    rw [bs_size]
    refine ev_neg (by simp) ?_
    exact fin false (by rw [ht]; rfl)
  | cons c r =>
    rw [ht, List.length_cons] at tl
    have ix := indexOf_ev (bs (c :: r)) 58 (by rw [bs_size, List.length_cons]; omega)
    rw [bs_toList] at ix
    rw [bs_size, bs_bt0]
    refine ev_pos (by rw [List.length_cons]; omega) (ev_pos (by rw [List.length_cons]; omega) ?_)
    by_cases h1 : (c.toNat : Int) = 43
    · have hc : c = 43 := UInt8.toNat_inj.1 (by show c.toNat = 43; omega)
      refine ev_pos h1 (ix.bind ?_)
      rw [place_ge]
      exact fin _ (by rw [ht]; unfold sgn; rw [hc]; rfl)
    · refine ev_neg h1 ?_
      by_cases h2 : (c.toNat : Int) = 45
      · have hc : c = 45 := UInt8.toNat_inj.1 (by show c.toNat = 45; omega)
        refine ev_pos h2 (ix.bind ?_)
        rw [place_ge]
        exact fin _ (by rw [ht]; unfold sgn; rw [hc]; rfl)
      · refine ev_neg h2 ?_
        refine fin false ?_
        rw [ht]
        unfold sgn
        have n1 : ((c :: r).head? == some (43 : UInt8)) = false := beq_eq_false_iff_ne.2 (fun e => h1 (by injection e with e; rw [e]; rfl))
        have n2 : ((c :: r).head? == some (45 : UInt8)) = false := beq_eq_false_iff_ne.2 (fun e => h2 (by injection e with e; rw [e]; rfl))
        rw [n1, n2]
        rfl
end Go.Proofs.YtffcbcihnoaikaaDoor.QB

namespace Go.Proofs.YtffcbcihnoaikaaDoor.QB
open Go.RowKit Go.Proofs.YtffcbcihnoaikaaDoorW.PrintWords Go.Proofs.YtffcbcihnoaikaaDoorW.PrintLast Go.Proofs.YtffcbcihnoaikaaDoor.Pk Go.Proofs.YtffcbcihnoaikaaDoor.Giv
set_option linter.unusedVariables false
set_option linter.unusedSimpArgs false

def alnum (c : UInt8) : Bool := Rpm.let_ c || Rpm.dig c
def plainB (more l : List UInt8) : Bool := l.all (fun c => alnum c || more.contains c) && !l.isEmpty
theorem inner_loop (pre r : List UInt8) (more rest : List UInt8) (c : UInt8) (R : Bool) (hl : (pre ++ r).length < 4611686018427387904) (hm : ∀ q : List UInt8, q ++ rest = more → more.length < 4611686018427387904)
    (next : Ev (fun k => laws_plain.l0 k (bs (pre ++ r)) (bs more) (wrap64 ((pre.length : Int) + 1))) R) :
    ∀ (q : List UInt8) (ok : Bool), q ++ rest = more → Ev (fun k => laws_plain.l1 k (bs (pre ++ r)) (bs more) (pre.length : Int) (c.toNat : Int) ok (q.length : Int)) ((ok || rest.contains c) && R) := by
  induction rest with
  | nil =>
    intro q ok e
    refine Ev.step (fun k => by rw [laws_plain.l1]) ?_
    rw [List.append_nil] at e
    subst e
    refine ev_neg (by rw [bs_size]; omega) ?_
    cases ok with
    | true => exact ev_pos rfl next
    | false => exact ev_neg (by simp) (Ev.now _)
  | cons x rest ih =>
    intro q ok e
    have hq : q.length < more.length := by rw [← e]; simp
    have hmm := hm q e
    have b := bs_bt more q.length hq
    have w := wr q.length (by omega)
    have hx : more[q.length]'hq = x := by
      have : more[q.length]? = some x := by rw [← e]; simp
      rw [List.getElem?_eq_getElem hq] at this
      exact Option.some.inj this
    rw [hx] at b
    refine Ev.step (fun k => by rw [laws_plain.l1, b, w]) ?_
    refine ev_pos (by rw [bs_size]; omega) ?_
    have z := ih (fun q _ => hmm) (q ++ [x])
    simp only [List.length_append, List.length_cons, List.length_nil, Nat.zero_add, List.append_assoc, List.cons_append, List.nil_append] at z
    cases ok with
    | true =>
      refine ev_pos rfl ?_
      have := z true e
      simpa using this
    | false =>
      refine ev_neg (by simp) (ev_pos (by omega) ?_)
      have := z ((c.toNat : Int) == (x.toNat : Int)) e
      have e2 : ((c.toNat : Int) == (x.toNat : Int)) = (c == x) := by
        rw [Bool.eq_iff_iff]
        simp only [beq_iff_eq]
        constructor
        · intro h
          exact UInt8.toNat_inj.1 (by omega)
        · intro h
          rw [h]
      rw [e2] at this
      have e3 : ((c == x) || rest.contains c) = (false || (x :: rest).contains c) := by
        rw [List.contains_cons, Bool.false_or]
      rw [e2, ← e3]
      exact this
theorem plain_loop (more : List UInt8) (hm : more.length < 4611686018427387904) (r : List UInt8) : ∀ pre : List UInt8, pre.length + r.length < 4611686018427387904 → Ev (fun k => laws_plain.l0 k (bs (pre ++ r)) (bs more) (pre.length : Int)) (r.all (fun c => alnum c || more.contains c) && !(pre ++ r).isEmpty) := by
  induction r with
  | nil =>
    intro pre hs
    refine Ev.step (fun k => by rw [laws_plain.l0]) ?_
    refine ev_neg (by rw [bs_size]; simp) ?_
    have e : ((bs (pre ++ [])).toList != ([] : List UInt8)) = ([].all (fun c => alnum c || more.contains c) && !(pre ++ []).isEmpty) := by
      rw [bs_toList, Bool.eq_iff_iff]
      simp
    rw [← e]
    exact Ev.now _
  | cons c r ih =>
    intro pre hs
    simp only [List.length_cons] at hs
    have hb := bs_bt (pre ++ c :: r) pre.length (by simp)
    rw [List.getElem_append_right (Nat.le_refl _)] at hb
    simp only [Nat.sub_self, List.getElem_cons_zero] at hb
    have w := wr pre.length (by omega)
    have z := ih (pre ++ [c]) (by simp; omega)
    rw [show (pre ++ [c]) ++ r = pre ++ c :: r by simp, show (pre ++ [c]).length = pre.length + 1 by simp] at z
    have j : ∀ ok : Bool, ok = alnum c → Ev (fun k => laws_plain.j1 k (bs (pre ++ c :: r)) (bs more) (pre.length : Int) (c.toNat : Int) ok) ((c :: r).all (fun c => alnum c || more.contains c) && !(pre ++ c :: r).isEmpty) := by
      intro ok hok
      refine Ev.step (fun k => by rw [laws_plain.j1]) ?_
      have := inner_loop pre (c :: r) more more c _ (by simp; omega) (fun _ _ => hm) (by rw [w]; exact z) [] ok rfl
      rw [hok] at this ⊢
      have e : ((c :: r).all (fun c => alnum c || more.contains c) && !(pre ++ c :: r).isEmpty) = ((alnum c || more.contains c) && (r.all (fun c => alnum c || more.contains c) && !(pre ++ c :: r).isEmpty)) := by
        rw [List.all_cons, Bool.and_assoc]
      rw [e]
      exact this
    refine Ev.step (fun k => by rw [laws_plain.l0, hb]) ?_
    refine ev_pos (by rw [bs_size, List.length_append, List.length_cons]; omega) (ev_pos (by omega) ?_)
    have tail : (¬ ((c.toNat : Int) ≥ 48 ∧ (c.toNat : Int) ≤ 57)) → Ev (fun k => if (c.toNat : Int) ≥ 97 then (if (c.toNat : Int) ≤ 122 then (laws_plain.j1 k (bs (pre ++ c :: r)) (bs more) (pre.length : Int) (c.toNat : Int) true) else (if (c.toNat : Int) ≥ 65 then (laws_plain.j1 k (bs (pre ++ c :: r)) (bs more) (pre.length : Int) (c.toNat : Int) (decide ((c.toNat : Int) ≤ 90))) else (laws_plain.j1 k (bs (pre ++ c :: r)) (bs more) (pre.length : Int) (c.toNat : Int) false))) else (if (c.toNat : Int) ≥ 65 then (laws_plain.j1 k (bs (pre ++ c :: r)) (bs more) (pre.length : Int) (c.toNat : Int) (decide ((c.toNat : Int) ≤ 90))) else (laws_plain.j1 k (bs (pre ++ c :: r)) (bs more) (pre.length : Int) (c.toNat : Int) false))) ((c :: r).all (fun c => alnum c || more.contains c) && !(pre ++ c :: r).isEmpty) := by
      intro hn
      have hd : Rpm.dig c = false := by
        unfold Rpm.dig
        rw [decide_eq_false_iff_not]
        omega
      have lt : ∀ p : Bool, (p = true ↔ (65 ≤ c.toNat ∧ c.toNat ≤ 90 ∨ 97 ≤ c.toNat ∧ c.toNat ≤ 122)) → p = alnum c := by
        intro p h
        unfold alnum Rpm.let_
        rw [hd, Bool.or_false, Bool.eq_iff_iff, h, decide_eq_true_eq]
      by_cases h97 : (c.toNat : Int) ≥ 97
      · refine ev_pos h97 ?_
        by_cases h122 : (c.toNat : Int) ≤ 122
        · exact ev_pos h122 (j _ (lt _ (by simp; omega)))
        · exact ev_neg h122 (ev_pos (by omega) (j _ (lt _ (by simp; omega))))
      · refine ev_neg h97 ?_
        by_cases h65 : (c.toNat : Int) ≥ 65
        · exact ev_pos h65 (j _ (lt _ (by simp; omega)))
        · exact ev_neg h65 (j _ (lt _ (by simp; omega)))
    by_cases h48 : (c.toNat : Int) ≥ 48
    · refine ev_pos h48 ?_
      by_cases h57 : (c.toNat : Int) ≤ 57
      · refine ev_pos h57 (j _ ?_)
        unfold alnum Rpm.dig
        rw [decide_eq_true (by omega), Bool.or_true]
      · exact ev_neg h57 (tail (by omega))
    · exact ev_neg h48 (tail (by omega))
theorem plain_ev (more l : List UInt8) (hm : more.length < 4611686018427387904) (hl : l.length < 4611686018427387904) : Ev (fun k => laws_plain.f k (bs l) (bs more)) (plainB more l) := by
  unfold laws_plain.f
  have := plain_loop more hm l [] (by simpa using hl)
  simpa [plainB] using this
end Go.Proofs.YtffcbcihnoaikaaDoor.QB

namespace Go.Proofs.YtffcbcihnoaikaaDoor.QB
open Go.RowKit Go.Proofs.YtffcbcihnoaikaaDoorW.PrintWords Go.Proofs.YtffcbcihnoaikaaDoorW.PrintLast Go.Proofs.YtffcbcihnoaikaaDoor.Pk Go.Proofs.YtffcbcihnoaikaaDoor.Giv Go.Proofs.YtffcbcihnoaikaaDoor.Ord
set_option linter.unusedVariables false
set_option linter.unusedSimpArgs false
/-- None of these bytes is d. -/
theorem plain_no {more l : List UInt8} (h : plainB more l = true) (d : UInt8) (h1 : alnum d = false) (h2 : more.contains d = false) : l.any (fun x => x == d) = false := by
  unfold plainB at h
  rw [Bool.and_eq_true, List.all_eq_true] at h
  rw [List.any_eq_false]
  intro x hx e
  have := h.1 x hx
  rw [beq_iff_eq] at e
  rw [e, h1, h2] at this
  exact absurd this (by simp)
theorem plain_sp {more l : List UInt8} (h : plainB more l = true) (hm : more.any Deb.sp = false) : l.any Deb.sp = false := by
  unfold plainB at h
  rw [Bool.and_eq_true, List.all_eq_true] at h
  rw [List.any_eq_false] at hm ⊢
  intro x hx e
  have := h.1 x hx
  rw [Bool.or_eq_true] at this
  rcases this with a | a
  · unfold alnum Rpm.let_ Rpm.dig at a
    unfold Deb.sp at e
    rw [Bool.or_eq_true] at a
    simp only [decide_eq_true_eq] at a e
    omega
  · exact hm x (by simpa using a) e
/-- What such a text falls into. -/
theorem plain_dv {more l : List UInt8} (h : plainB more l = true) (hm : more.any Deb.sp = false) (h58 : more.contains 58 = false) : dvL l = some (0, Deb.urv l) := by
  unfold dvL
  rw [Deb.dtr_none (plain_sp h hm), Deb.dvp_plain (plain_no h 58 (by decide) h58)]
theorem dcF {a b : List UInt8} {p q : Int × List UInt8 × List UInt8} (ha : okB a = true) (hb : okB b = true) (hp : dvL a = some p) (hq : dvL b = some q) : Giv.impl_DebianCompare.f (bs a) (bs b) = some (Deb.dvC p q, true) := by
  unfold Giv.impl_DebianCompare.f
  rw [bs_toList, bs_toList, if_pos ⟨ha, hb⟩, hp, hq]
end Go.Proofs.YtffcbcihnoaikaaDoor.QB
