/- 'short': of lists of texts.
   What the reference's small functions over lists of texts answer: fits, digits, known segments, numbers in digits.
   'Ascii' of the reference.
   What the reference answers: zeros at the end dropped.
   What the reference answers: points put between digits and other characters.
   What the reference answers over segments: known ones.
   What the reference answers: numbers in digits compared.
   What the reference answers over segments: known ones, numbers in digits, lists compared.
   What program and reference answer over versions of RubyGems.
   What the reference answers by Gem::Version's page. -/
import Derived.Test.YtfgechefinijbaaDoorZD
import Derived.Test.YtfgechefinijbaaDoorQGx
import Derived.Test.YtfgechefinijbaaDoorZA
import Derived.Test.YtfgechefinijbaaDoorZK
import Derived.Test.YtfgechefinijbaaDoorRPrp
import Derived.Test.YtfgechefinijbaaDoorGem
namespace Go.Proofs.YtfgechefinijbaaDoor.QG
open Go.RowKit Go.Proofs.YtfgechefinijbaaDoorW.PrintWords Go.Proofs.YtfgechefinijbaaDoorW.PrintLast Go.Proofs.YtfgechefinijbaaDoor.Pk Go.Proofs.YtfgechefinijbaaDoor.Giv
set_option linter.unusedVariables false

/-- Are all texts short, and not many of them? -/
def shortB (l : List ByteArray) : Bool := l.all (fun s => decide (s.size ≤ 1500)) && decide (l.length ≤ 150)
theorem short_loop (l : List ByteArray) (hl : l.length < 4611686018427387904) (d : Nat) : ∀ i : Nat, i + d = l.length → Ev (fun k => laws_short.l0 k l l (l.length : Int) (i : Int)) ((l.drop i).all (fun s => decide (s.size ≤ 1500)) && decide (l.length ≤ 150)) := by
  induction d with
  | zero =>
    intro i hi
    refine Ev.step (fun k => by rw [laws_short.l0]) ?_
    refine ev_neg (by omega) ?_
    rw [List.drop_of_length_le (by omega)]
    have e : decide ((l.length : Int) ≤ 150) = ([].all (fun s : ByteArray => decide (s.size ≤ 1500)) && decide (l.length ≤ 150)) := by
      rw [List.all_nil, Bool.true_and, decide_eq_decide]
      omega
    rw [← e]
    exact Ev.now _
  | succ d ih =>
    intro i hi
    have hlt : i < l.length := by omega
    have r := rdOf_nat ByteArray.empty l i hlt
    have w := wr i (by omega)
    refine Ev.step (fun k => by rw [laws_short.l0, r, w]) ?_
    refine ev_pos (by omega) (ev_pos (by omega) (ev_pos (by omega) ?_))
    rw [List.drop_eq_getElem_cons hlt, List.all_cons]
    by_cases h : ((l[i].size : Int)) > 1500
    · refine ev_pos h ?_
      have e : decide (l[i].size ≤ 1500) = false := by rw [decide_eq_false_iff_not]; omega
      rw [e]
      exact Ev.now _
    · refine ev_neg h ?_
      have e : decide (l[i].size ≤ 1500) = true := by rw [decide_eq_true_eq]; omega
      rw [e, Bool.true_and]
      exact ih (i + 1) (by omega)
theorem short_ev (l : List ByteArray) (hl : l.length < 4611686018427387904) : Ev (fun k => laws_short.f k l) (shortB l) := short_loop l hl l.length 0 (by omega)
theorem short_sizes {l : List ByteArray} (h : shortB l = true) : ∀ s ∈ l, s.size ≤ 1500 := by
  unfold shortB at h
  rw [Bool.and_eq_true, List.all_eq_true] at h
  intro s hs
  simpa using h.1 s hs
theorem short_len {l : List ByteArray} (h : shortB l = true) : l.length ≤ 150 := by
  unfold shortB at h
  rw [Bool.and_eq_true] at h
  simpa using h.2
end Go.Proofs.YtfgechefinijbaaDoor.QG

namespace Go.Proofs.YtfgechefinijbaaDoor.QG
open Go.RowKit Go.Proofs.YtfgechefinijbaaDoorW.PrintWords Go.Proofs.YtfgechefinijbaaDoorW.PrintLast Go.Proofs.YtfgechefinijbaaDoor.Pk Go.Proofs.YtfgechefinijbaaDoor.Giv Go.Proofs.YtfgechefinijbaaDoor.Ord
set_option linter.unusedVariables false

theorem isDigit_f (c : UInt8) : spec_isDigit.f (c.toNat : Int) = some (Rpm.dig c) := by
  unfold spec_isDigit.f Rpm.dig
  by_cases h : (c.toNat : Int) ≥ 48
  · rw [if_pos h]
    congr 1
    rw [decide_eq_decide]
    omega
  · rw [if_neg h]
    congr 1
    rw [eq_comm, decide_eq_false_iff_not]
    omega
theorem allDigits_loop (s : ByteArray) (hs : s.size < 4611686018427387904) (d : Nat) : ∀ i : Nat, i + d = s.size → Ev (fun k => spec_allDigits.l0 k s (i : Int)) ((s.toList.drop i).all Rpm.dig && decide (s.size > 0)) := by
  induction d with
  | zero =>
    intro i hi
    refine Ev.step (fun k => by rw [spec_allDigits.l0]) ?_
    refine ev_neg (by omega) ?_
    rw [List.drop_of_length_le (by rw [len_toList]; omega), List.all_nil, Bool.true_and]
    have e : decide ((s.size : Int) > 0) = decide (s.size > 0) := by rw [decide_eq_decide]; omega
    rw [← e]
    exact Ev.now _
  | succ d ih =>
    intro i hi
    have hlt : i < s.size := by omega
    have w := wr i (by omega)
    refine Ev.step (fun k => by rw [spec_allDigits.l0, bt_nat s i hlt, w, isDigit_f]) ?_
    refine ev_pos (by omega) (ev_pos (by omega) (ev_some ?_))
    rw [drop_at s i hlt, List.all_cons]
    cases hd : Rpm.dig (s[i]'hlt) with
    | true => exact ev_pos rfl (ih (i + 1) (by omega))
    | false => exact ev_neg (by simp) (Ev.now _)
theorem allDigits_ev (s : ByteArray) (hs : s.size < 4611686018427387904) : Ev (fun k => spec_allDigits.f k s) (Num.digits s.toList) := by
  unfold spec_allDigits.f
  have := allDigits_loop s hs s.size 0 (by omega)
  have e : ((s.toList.drop 0).all Rpm.dig && decide (s.size > 0)) = Num.digits s.toList := by
    unfold Num.digits
    rw [List.drop_zero, Bool.and_comm]
    congr 1
    rw [Bool.eq_iff_iff, ← len_toList]
    simp [List.length_pos_iff]
  rw [← e]
  exact this
theorem tail_eq (s : ByteArray) (h : 0 < s.size) : s.toList = s[0]'h :: (s.extract 1 s.size).toList := by
  rw [ext_all]
  have := drop_at s 0 h
  simpa using this
/-- No sign ahead of digits in any. -/
def idK (l : List ByteArray) : Bool := l.all (fun s => !Seg.signed s.toList)
theorem idKnown_loop (l : List ByteArray) (hl : l.length < 4611686018427387904) (hs : ∀ s ∈ l, s.size < 4611686018427387904) (d : Nat) : ∀ i : Nat, i + d = l.length → Ev (fun k => spec_IdentifiersKnown.l0 k l (i : Int)) (idK (l.drop i)) := by
  induction d with
  | zero =>
    intro i hi
    refine Ev.step (fun k => by rw [spec_IdentifiersKnown.l0]) ?_
    refine ev_neg (by omega) ?_
    rw [List.drop_of_length_le (by omega)]
    exact Ev.now _
  | succ d ih =>
    intro i hi
    have hlt : i < l.length := by omega
    have w := wr i (by omega)
    have r := rdOf_nat ByteArray.empty l i hlt
    have hz := hs _ (List.getElem_mem hlt)
    have nx := ih (i + 1) (by omega)
    rw [List.drop_eq_getElem_cons hlt]
    unfold idK at nx ⊢
    rw [List.all_cons]
    generalize l[i]'hlt = s at *
    refine Ev.step (fun k => by rw [spec_IdentifiersKnown.l0, w, r]) ?_
    refine ev_pos (by omega) (ev_pos (by omega) ?_)
    by_cases h1 : (s.size : Int) > 1
    · have h0 : 0 < s.size := by omega
      have et := tail_eq s h0
      have b0 : bt s 0 = ((s[0]'h0).toNat : Int) := bt_nat s 0 h0
      have ad := allDigits_ev (s.extract 1 s.size) (by rw [ByteArray.size_extract]; omega)
      refine ev_pos h1 (ev_pos (by omega) ?_)
      rw [b0]
      have sg : Seg.signed s.toList = ((decide ((s[0]'h0).toNat = 45) || decide ((s[0]'h0).toNat = 43)) && Num.digits (s.extract 1 s.size).toList) := by
        conv => lhs; rw [et]
        rfl
      rw [sg]
      by_cases c1 : ((s[0]'h0).toNat : Int) = 45
      · refine ev_pos c1 (ev_pos (by omega) (ad.bind ?_))
        rw [decide_eq_true (by omega), Bool.true_or, Bool.true_and]
        cases Num.digits (s.extract 1 s.size).toList with
        | true => exact ev_pos rfl (Ev.now _)
        | false => exact ev_neg (by simp) nx
      · refine ev_neg c1 ?_
        by_cases c2 : ((s[0]'h0).toNat : Int) = 43
        · refine ev_pos c2 (ev_pos (by omega) (ad.bind ?_))
          rw [decide_eq_false (by omega), decide_eq_true (by omega), Bool.false_or, Bool.true_and]
          cases Num.digits (s.extract 1 s.size).toList with
          | true => exact ev_pos rfl (Ev.now _)
          | false => exact ev_neg (by simp) nx
        · refine ev_neg c2 ?_
          rw [decide_eq_false (by omega), decide_eq_false (by omega)]
          exact nx
    · refine ev_neg h1 ?_
      have sg : Seg.signed s.toList = false := by
        have hl : s.toList.length ≤ 1 := by rw [len_toList]; omega
        unfold Seg.signed
        cases hc : s.toList with
        | nil => rfl
        | cons c r =>
          have : r = [] := by rw [hc] at hl; simp at hl; exact hl
          subst this
          simp [Num.digits]
      rw [sg]
      exact nx
theorem idKnown_ev (l : List ByteArray) (hl : l.length < 4611686018427387904) (hs : ∀ s ∈ l, s.size < 4611686018427387904) : Ev (fun k => spec_IdentifiersKnown.f k l) (idK l) := by
  have := idKnown_loop l hl hs l.length 0 (by omega)
  exact this
theorem idK_tl {l : List ByteArray} (h : idK l = true) : ∀ x ∈ tl l, Seg.signed x = false := by
  intro x hx
  obtain ⟨s, hs, rfl⟩ := List.mem_map.1 hx
  unfold idK at h
  rw [List.all_eq_true] at h
  simpa using h s hs
end Go.Proofs.YtfgechefinijbaaDoor.QG

namespace Go.Proofs.YtfgechefinijbaaDoor.QG
open Go.RowKit Go.Proofs.YtfgechefinijbaaDoorW.PrintWords Go.Proofs.YtfgechefinijbaaDoorW.PrintLast Go.Proofs.YtfgechefinijbaaDoor.Pk Go.Proofs.YtfgechefinijbaaDoor.Giv
set_option linter.unusedVariables false

def ascB (s : ByteArray) : Bool := s.toList.all (fun c => decide (c.toNat < 128))
theorem ascii_loop (s : ByteArray) (hs : s.size < 4611686018427387904) (d : Nat) : ∀ i : Nat, i + d = s.size → Ev (fun k => spec_Ascii.l0 k s (i : Int)) ((s.toList.drop i).all (fun c => decide (c.toNat < 128))) := by
  induction d with
  | zero =>
    intro i hi
    refine Ev.step (fun k => by rw [spec_Ascii.l0]) ?_
    refine ev_neg (by omega) ?_
    rw [List.drop_of_length_le (by rw [len_toList]; omega)]
    exact Ev.now _
  | succ d ih =>
    intro i hi
    have hlt : i < s.size := by omega
    have b := bt_nat s i hlt
    have w := wr i (by omega)
    refine Ev.step (fun k => by rw [spec_Ascii.l0, b, w]) ?_
    refine ev_pos (by omega) (ev_pos (by omega) ?_)
    rw [drop_at s i hlt, List.all_cons]
    by_cases h : (((s[i]'hlt).toNat : Int)) > 127
    · refine ev_pos h ?_
      rw [show decide ((s[i]'hlt).toNat < 128) = false by rw [decide_eq_false_iff_not]; omega]
      exact Ev.now _
    · refine ev_neg h ?_
      rw [show decide ((s[i]'hlt).toNat < 128) = true by rw [decide_eq_true_eq]; omega, Bool.true_and]
      exact ih (i + 1) (by omega)
theorem ascii_ev (s : ByteArray) (hs : s.size < 4611686018427387904) : Ev (fun k => spec_Ascii.f k s) (ascB s) := ascii_loop s hs s.size 0 (by omega)
end Go.Proofs.YtfgechefinijbaaDoor.QG

namespace Go.Proofs.YtfgechefinijbaaDoor.QG
open Go.RowKit Go.Proofs.YtfgechefinijbaaDoorW.PrintWords Go.Proofs.YtfgechefinijbaaDoorW.PrintLast Go.Proofs.YtfgechefinijbaaDoor.Pk Go.Proofs.YtfgechefinijbaaDoor.Giv Go.Proofs.YtfgechefinijbaaDoor.Ord
set_option linter.unusedVariables false

theorem rd_getD (l : List ByteArray) (n : Nat) (h : n < l.length) : rdOf ByteArray.empty l (n : Int) = l.getD n ⟨#[]⟩ := by
  rw [rdOf_nat _ _ n h, List.getD_eq_getElem?_getD, List.getElem?_eq_getElem h]
  rfl
theorem specTrim_loop (l : List ByteArray) (hl : l.length < 8796093022207) : ∀ n : Nat, n ≤ l.length → Ev (fun k => spec_RubyTrim.l0 k l (n : Int)) (l.take (cutZ l n))
  | 0, _ => by
    refine Ev.step (fun k => by rw [spec_RubyTrim.l0]) ?_
    refine ev_neg (by omega) (ev_pos (by omega) (ev_pos (by omega) (ev_pos (by simp) ?_)))
    exact Ev.now _
  | n + 1, h => by
    have w : wrap64 (((n + 1 : Nat) : Int) - 1) = (n : Int) := by unfold wrap64; omega
    have r := rd_getD l n (by omega)
    refine Ev.step (fun k => by rw [spec_RubyTrim.l0, w, r]) ?_
    refine ev_pos (by omega) (ev_pos (by omega) (ev_pos (by omega) ?_))
    unfold cutZ
    by_cases hz : (l.getD n ⟨#[]⟩).toList = [48]
    · rw [if_pos hz]
      exact ev_pos hz (specTrim_loop l hl n (by omega))
    · rw [if_neg hz]
      refine ev_neg hz (ev_pos (by omega) (ev_pos (by omega) (ev_pos ?_ ?_)))
      · simp only [List.length_nil, List.length_take]
        omega
      · rw [Int.toNat_natCast, List.nil_append]
        exact Ev.now _
theorem specTrim_ev (l : List ByteArray) (hl : l.length < 8796093022207) : Ev (fun k => spec_RubyTrim.f k l) (trimZ l) := specTrim_loop l hl l.length (Nat.le_refl _)
end Go.Proofs.YtfgechefinijbaaDoor.QG

namespace Go.Proofs.YtfgechefinijbaaDoor.QG
open Go.RowKit Go.Proofs.YtfgechefinijbaaDoorW.PrintWords Go.Proofs.YtfgechefinijbaaDoorW.PrintLast Go.Proofs.YtfgechefinijbaaDoor.Pk Go.Proofs.YtfgechefinijbaaDoor.Giv Go.Proofs.YtfgechefinijbaaDoor.Ord Go.Proofs.YtfgechefinijbaaDoor.Canon
set_option linter.unusedVariables false

def bi (l : List UInt8) : List Int := l.map (fun c => (c.toNat : Int))
theorem bi_len (l : List UInt8) : (bi l).length = l.length := by simp [bi]
theorem bi_app (l m : List UInt8) : bi l ++ bi m = bi (l ++ m) := by simp [bi]
theorem strOf_bi (l : List UInt8) : strOfNums (bi l) = bs l := by
  unfold strOfNums bs bi
  rw [List.map_map]
  congr 2
  conv => rhs; rw [← List.map_id l]
  apply List.map_congr_left
  intro c _
  simp
theorem canon_no (p q : Bool) (l : List UInt8) : canon false p l = canon false q l := by
  cases l with
  | nil => rfl
  | cons c r =>
    rw [canon, canon]
    by_cases h : c = 46
    · rw [if_pos h, if_pos h, canon_no p q r]
    · rw [if_neg h, if_neg h]
      rfl
theorem canon_loop (s : ByteArray) (hs : s.size < 100000000) (d : Nat) : ∀ (i : Nat) (cp pd : Bool) (out : List UInt8), i + d = s.size → (cp = false → i = 0 ∨ ∃ h : i - 1 < s.size, s[i - 1]'h = 46) → (cp = true → 0 < i ∧ ∃ h : i - 1 < s.size, s[i - 1]'h ≠ 46 ∧ Rpm.dig (s[i - 1]'h) = pd) → out.length + 2 * d < 1000000000 →
    Ev (fun k => spec_RubyCanonical.l0 k s (bi out) (i : Int)) (bs (out ++ canon cp pd (s.toList.drop i))) := by
  induction d with
  | zero =>
    intro i cp pd out hi h0 h1 hb
    refine Ev.step (fun k => by rw [spec_RubyCanonical.l0, strOf_bi]) ?_
    refine ev_neg (by omega) ?_
    rw [List.drop_of_length_le (by rw [len_toList]; omega)]
    have : canon cp pd [] = [] := by cases cp <;> rfl
    rw [this, List.append_nil]
    exact Ev.now _
  | succ d ih =>
    intro i cp pd out hi h0 h1 hb
    have hlt : i < s.size := by omega
    have b := bt_nat s i hlt
    have w : wrap64 ((i : Int) + 1) = ((i + 1 : Nat) : Int) := wr i (by omega)
    have len : (bi out).length < 140737488355328 := by rw [bi_len]; omega
    have dr := drop_at s i hlt
    -- the byte written
    have one : bi out ++ [((s[i]'hlt).toNat : Int)] = bi (out ++ [s[i]'hlt]) := by simp [bi]
    have two : (bi out ++ [46] : List Int) = bi (out ++ [46]) := by simp [bi]
    have next : ∀ (o : List UInt8), o.length + 2 * d < 1000000000 → Ev (fun k => spec_RubyCanonical.l0 k s (bi o) ((i + 1 : Nat) : Int)) (bs (o ++ canon (decide (s[i]'hlt ≠ 46)) (Rpm.dig (s[i]'hlt)) (s.toList.drop (i + 1)))) := fun o ho => by
      refine ih (i + 1) _ _ o (by omega) (fun h => .inr ⟨by omega, ?_⟩) (fun h => ⟨by omega, by omega, ?_, ?_⟩) ho
      · have := of_decide_eq_false h
        simpa using this
      · have := of_decide_eq_true h
        simpa using this
      · simp
    have n1 := next (out ++ [s[i]'hlt]) (by simp; omega)
    rw [← one, ← w] at n1
    by_cases h46 : s[i]'hlt = 46
    · -- a point
      have hn : ((s[i]'hlt).toNat : Int) = 46 := by rw [h46]; rfl
      have V : bs (out ++ canon cp pd (s.toList.drop i)) = bs (out ++ [s[i]'hlt] ++ canon (decide (s[i]'hlt ≠ 46)) (Rpm.dig (s[i]'hlt)) (s.toList.drop (i + 1))) := by
        rw [dr]
        conv => lhs; rw [canon]
        rw [if_pos h46, decide_eq_false (by simpa using h46), canon_no (Rpm.dig (s[i]'hlt)) pd, List.append_assoc, h46]
        rfl
      rw [V]
      refine Ev.step (fun k => by rw [spec_RubyCanonical.l0, b]) ?_
      refine ev_pos (by omega) ?_
      by_cases hi0 : (i : Int) > 0
      · exact ev_pos hi0 (ev_pos (by omega) (ev_pos hn (ev_pos len n1)))
      · exact ev_neg hi0 (ev_pos (by omega) (ev_pos len n1))
    · have hn : ¬ ((s[i]'hlt).toNat : Int) = 46 := fun h => h46 (UInt8.toNat_inj.1 (by have : (46 : UInt8).toNat = 46 := rfl; omega))
      have hd : decide (s[i]'hlt ≠ 46) = true := decide_eq_true h46
      rw [hd] at n1 next
      have V : bs (out ++ canon cp pd (s.toList.drop i)) = bs (out ++ ((if (cp && (pd != Rpm.dig (s[i]'hlt))) = true then [46] else []) ++ s[i]'hlt :: canon true (Rpm.dig (s[i]'hlt)) (s.toList.drop (i + 1)))) := by
        rw [dr]
        conv => lhs; rw [canon]
        rw [if_neg h46]
      rw [V]
      refine Ev.step (fun k => by rw [spec_RubyCanonical.l0, b]) ?_
      refine ev_pos (by omega) ?_
      cases cp with
      | false =>
        have plain : Ev (fun k => spec_RubyCanonical.l0 k s (bi out ++ [((s[i]'hlt).toNat : Int)]) (wrap64 ((i : Int) + 1))) (bs (out ++ ((if (false && (pd != Rpm.dig (s[i]'hlt))) = true then [46] else []) ++ s[i]'hlt :: canon true (Rpm.dig (s[i]'hlt)) (s.toList.drop (i + 1))))) := by
          have e : (out ++ ((if (false && (pd != Rpm.dig (s[i]'hlt))) = true then [46] else []) ++ s[i]'hlt :: canon true (Rpm.dig (s[i]'hlt)) (s.toList.drop (i + 1)))) = out ++ [s[i]'hlt] ++ canon true (Rpm.dig (s[i]'hlt)) (s.toList.drop (i + 1)) := by simp
          rw [e]
          exact n1
        rcases h0 rfl with hi0 | ⟨hp, hp46⟩
        · exact ev_neg (by omega) (ev_pos (by omega) (ev_pos len plain))
        · by_cases hi0 : (i : Int) > 0
          · have wp : wrap64 ((i : Int) - 1) = ((i - 1 : Nat) : Int) := by unfold wrap64; omega
            have bp := bt_nat s (i - 1) hp
            rw [hp46] at bp
            refine ev_pos hi0 (ev_pos (by omega) (ev_neg hn ?_))
            rw [wp, bp]
            exact ev_pos (by omega) (ev_pos (by omega) (ev_pos rfl (ev_pos len plain)))
          · exact ev_neg hi0 (ev_pos (by omega) (ev_pos len plain))
      | true =>
        obtain ⟨hi0, hp, hp46, hpd⟩ := h1 rfl
        have wp : wrap64 ((i : Int) - 1) = ((i - 1 : Nat) : Int) := by unfold wrap64; omega
        have bp := bt_nat s (i - 1) hp
        have hpn : ¬ ((s[i - 1]'hp).toNat : Int) = 46 := fun h => hp46 (UInt8.toNat_inj.1 (by have : (46 : UInt8).toNat = 46 := rfl; omega))
        refine ev_pos (by omega) (ev_pos (by omega) (ev_neg hn ?_))
        rw [wp, bp]
        refine ev_pos (by omega) (ev_pos (by omega) (ev_neg hpn ?_))
        rw [isDigit_f, isDigit_f, hpd]
        refine ev_some (ev_some ?_)
        cases hx : (Rpm.dig (s[i]'hlt) != pd) with
        | true =>
          have hx' : (pd != Rpm.dig (s[i]'hlt)) = true := by rw [bne_comm]; exact hx
          refine ev_pos rfl (ev_pos len (ev_some ?_))
          rw [two]
          refine ev_pos (by rw [bi_len]; simp; omega) ?_
          have n2 := next (out ++ [46] ++ [s[i]'hlt]) (by simp; omega)
          have one2 : bi (out ++ [46]) ++ [((s[i]'hlt).toNat : Int)] = bi (out ++ [46] ++ [s[i]'hlt]) := by simp [bi]
          rw [← one2, ← w] at n2
          have e : (out ++ ((if (true && (pd != Rpm.dig (s[i]'hlt))) = true then [46] else []) ++ s[i]'hlt :: canon true (Rpm.dig (s[i]'hlt)) (s.toList.drop (i + 1)))) = out ++ [46] ++ [s[i]'hlt] ++ canon true (Rpm.dig (s[i]'hlt)) (s.toList.drop (i + 1)) := by
            rw [hx']
            simp
          rw [e]
          exact n2
        | false =>
          have hx' : (pd != Rpm.dig (s[i]'hlt)) = false := by rw [bne_comm]; exact hx
          refine ev_neg (by simp) (ev_pos len ?_)
          have e : (out ++ ((if (true && (pd != Rpm.dig (s[i]'hlt))) = true then [46] else []) ++ s[i]'hlt :: canon true (Rpm.dig (s[i]'hlt)) (s.toList.drop (i + 1)))) = out ++ [s[i]'hlt] ++ canon true (Rpm.dig (s[i]'hlt)) (s.toList.drop (i + 1)) := by
            rw [hx']
            simp
          rw [e]
          exact n1
theorem specCanon_ev (s : ByteArray) (hs : s.size < 100000000) : Ev (fun k => spec_RubyCanonical.f k s) (bs (canon false true s.toList)) := by
  have := canon_loop s hs s.size 0 false true [] (by omega) (fun _ => .inl rfl) (fun h => absurd h (by simp)) (by simp; omega)
  rw [List.drop_zero, List.nil_append] at this
  exact this
end Go.Proofs.YtfgechefinijbaaDoor.QG

namespace Go.Proofs.YtfgechefinijbaaDoor.QG
open Go.RowKit Go.Proofs.YtfgechefinijbaaDoorW.PrintWords Go.Proofs.YtfgechefinijbaaDoorW.PrintLast Go.Proofs.YtfgechefinijbaaDoor.Pk Go.Proofs.YtfgechefinijbaaDoor.Giv Go.Proofs.YtfgechefinijbaaDoor.Ord
set_option linter.unusedVariables false

/-- A zero ahead of digits. -/
def zer (s : ByteArray) : Bool := decide (1 < s.size) && (decide (bt s 0 = 48) && Num.digits s.toList)
def rbK (l : List ByteArray) : Bool := l.all (fun s => !zer s) && idK l
theorem rbKnown_loop (l : List ByteArray) (hl : l.length < 4611686018427387904) (hs : ∀ s ∈ l, s.size < 4611686018427387904) (d : Nat) : ∀ i : Nat, i + d = l.length → Ev (fun k => spec_RubySegmentsKnown.l0 k l (i : Int)) ((l.drop i).all (fun s => !zer s) && idK l) := by
  induction d with
  | zero =>
    intro i hi
    refine Ev.step (fun k => by rw [spec_RubySegmentsKnown.l0]) ?_
    refine ev_neg (by omega) ?_
    rw [List.drop_of_length_le (by omega), List.all_nil, Bool.true_and]
    exact (idKnown_ev l hl hs).bind (Ev.now _)
  | succ d ih =>
    intro i hi
    have hlt : i < l.length := by omega
    have w := wr i (by omega)
    have r := rdOf_nat ByteArray.empty l i hlt
    have hz := hs _ (List.getElem_mem hlt)
    have nx := ih (i + 1) (by omega)
    rw [List.drop_eq_getElem_cons hlt, List.all_cons, Bool.and_assoc]
    generalize l[i]'hlt = s at *
    refine Ev.step (fun k => by rw [spec_RubySegmentsKnown.l0, w, r]) ?_
    refine ev_pos (by omega) (ev_pos (by omega) ?_)
    unfold zer
    by_cases h1 : (s.size : Int) > 1
    · rw [decide_eq_true (by omega), Bool.true_and]
      refine ev_pos h1 (ev_pos (by omega) ?_)
      by_cases c1 : bt s 0 = 48
      · rw [decide_eq_true c1, Bool.true_and]
        refine ev_pos c1 ((allDigits_ev s hz).bind ?_)
        cases Num.digits s.toList with
        | true => exact ev_pos rfl (Ev.now _)
        | false => exact ev_neg (by simp) nx
      · rw [decide_eq_false c1, Bool.false_and, Bool.not_false, Bool.true_and]
        exact ev_neg c1 nx
    · rw [decide_eq_false (by omega), Bool.false_and, Bool.not_false, Bool.true_and]
      exact ev_neg h1 nx
theorem rbKnown_ev (l : List ByteArray) (hl : l.length < 4611686018427387904) (hs : ∀ s ∈ l, s.size < 4611686018427387904) : Ev (fun k => spec_RubySegmentsKnown.f k l) (rbK l) := rbKnown_loop l hl hs l.length 0 (by omega)
theorem rbK_id {l : List ByteArray} (h : rbK l = true) : idK l = true := by
  unfold rbK at h
  rw [Bool.and_eq_true] at h
  exact h.2

end Go.Proofs.YtfgechefinijbaaDoor.QG

namespace Go.Proofs.YtfgechefinijbaaDoor.QG
open Go.RowKit Go.Proofs.YtfgechefinijbaaDoorW.PrintWords Go.Proofs.YtfgechefinijbaaDoorW.PrintLast Go.Proofs.YtfgechefinijbaaDoor.Pk Go.Proofs.YtfgechefinijbaaDoor.Giv Go.Proofs.YtfgechefinijbaaDoor.Ord
set_option linter.unusedVariables false

theorem on_l1 (n : Nat) (a : ByteArray) (sa : List UInt8) (ha : Rpm.strip0 a.toList = a.toList) : ∀ b : ByteArray, b.size ≤ n → b.size < 4611686018427387904 → Ev (fun k => spec_orderNumbers.l1 k a b) (if cI a.size (Rpm.strip0 b.toList).length = 0 then cS a.toList (Rpm.strip0 b.toList) else cI a.size (Rpm.strip0 b.toList).length) := by
  have fin : ∀ b : ByteArray, Rpm.strip0 b.toList = b.toList → Ev (fun k => spec_orderNumbers.j3 k a b) (if cI a.size (Rpm.strip0 b.toList).length = 0 then cS a.toList (Rpm.strip0 b.toList) else cI a.size (Rpm.strip0 b.toList).length) := by
    intro b hb
    rw [hb, len_toList]
    refine Ev.step (fun k => by rw [spec_orderNumbers.j3]) ?_
    by_cases h : (a.size : Int) = (b.size : Int)
    · rw [if_pos (cI_zero.2 h)]
      exact ev_pos h (ev_some (Ev.now _))
    · rw [if_neg (fun e => h (cI_zero.1 e))]
      refine ev_neg h ?_
      unfold spec_orderInts.f cI
      by_cases h1 : (a.size : Int) < (b.size : Int)
      · rw [if_pos h1, if_pos h1]
        exact ev_some (Ev.now _)
      · rw [if_neg h1, if_pos (by omega), if_neg h1, if_pos (by omega)]
        exact ev_some (Ev.now _)
  induction n with
  | zero =>
    intro b hb _
    refine Ev.step (fun k => by rw [spec_orderNumbers.l1]) ?_
    refine ev_neg (by omega) (fin b ?_)
    have : b.toList = [] := List.length_eq_zero_iff.1 (by rw [len_toList]; omega)
    rw [this]
    rfl
  | succ n ih =>
    intro b hb hz
    refine Ev.step (fun k => by rw [spec_orderNumbers.l1]) ?_
    by_cases h : (b.size : Int) > 0
    · have h0 : 0 < b.size := by omega
      have et := tail_eq b h0
      refine ev_pos h (ev_pos (by omega) ?_)
      rw [bt_nat b 0 h0 |> (fun e => (e : bt b 0 = _))]
      by_cases c : ((b[0]'h0).toNat : Int) = 48
      · refine ev_pos c (ev_pos (by omega) ?_)
        have z := ih (b.extract 1 b.size) (by rw [ByteArray.size_extract]; omega) (by rw [ByteArray.size_extract]; omega)
        have e : Rpm.strip0 b.toList = Rpm.strip0 (b.extract 1 b.size).toList := by
          conv => lhs; rw [et]
          unfold Rpm.strip0
          rw [List.dropWhile_cons_of_pos (by simp; omega)]
        rw [e]
        exact z
      · refine ev_neg c (fin b ?_)
        conv => lhs; rw [et]
        unfold Rpm.strip0
        rw [List.dropWhile_cons_of_neg (by simp; omega)]
        exact et.symm
    · refine ev_neg h (fin b ?_)
      have : b.toList = [] := List.length_eq_zero_iff.1 (by rw [len_toList]; omega)
      rw [this]
      rfl
theorem on_l0 (n : Nat) (b : ByteArray) (hb : b.size < 4611686018427387904) : ∀ a : ByteArray, a.size ≤ n → a.size < 4611686018427387904 → Ev (fun k => spec_orderNumbers.l0 k a b) (Rpm.numC a.toList b.toList) := by
  have fin : ∀ a : ByteArray, Rpm.strip0 a.toList = a.toList → Ev (fun k => spec_orderNumbers.j1 k a b) (Rpm.numC a.toList b.toList) := by
    intro a ha
    refine Ev.step (fun k => by rw [spec_orderNumbers.j1]) ?_
    have := on_l1 b.size a [] ha b (Nat.le_refl _) hb
    unfold Rpm.numC
    rw [ha, len_toList]
    exact this
  induction n with
  | zero =>
    intro a ha _
    refine Ev.step (fun k => by rw [spec_orderNumbers.l0]) ?_
    refine ev_neg (by omega) (fin a ?_)
    have : a.toList = [] := List.length_eq_zero_iff.1 (by rw [len_toList]; omega)
    rw [this]
    rfl
  | succ n ih =>
    intro a ha hz
    refine Ev.step (fun k => by rw [spec_orderNumbers.l0]) ?_
    by_cases h : (a.size : Int) > 0
    · have h0 : 0 < a.size := by omega
      have et := tail_eq a h0
      refine ev_pos h (ev_pos (by omega) ?_)
      rw [bt_nat a 0 h0 |> (fun e => (e : bt a 0 = _))]
      by_cases c : ((a[0]'h0).toNat : Int) = 48
      · refine ev_pos c (ev_pos (by omega) ?_)
        have z := ih (a.extract 1 a.size) (by rw [ByteArray.size_extract]; omega) (by rw [ByteArray.size_extract]; omega)
        have e : Rpm.strip0 a.toList = Rpm.strip0 (a.extract 1 a.size).toList := by
          conv => lhs; rw [et]
          unfold Rpm.strip0
          rw [List.dropWhile_cons_of_pos (by simp; omega)]
        unfold Rpm.numC at z ⊢
        rw [e]
        exact z
      · refine ev_neg c (fin a ?_)
        conv => lhs; rw [et]
        unfold Rpm.strip0
        rw [List.dropWhile_cons_of_neg (by simp; omega)]
        exact et.symm
    · refine ev_neg h (fin a ?_)
      have : a.toList = [] := List.length_eq_zero_iff.1 (by rw [len_toList]; omega)
      rw [this]
      rfl
theorem orderNumbers_ev (a b : ByteArray) (ha : a.size < 4611686018427387904) (hb : b.size < 4611686018427387904) : Ev (fun k => spec_orderNumbers.f k a b) (Rpm.numC a.toList b.toList) := on_l0 a.size b hb a (Nat.le_refl _) ha
end Go.Proofs.YtfgechefinijbaaDoor.QG

namespace Go.Proofs.YtfgechefinijbaaDoor.QG
open Go.RowKit Go.Proofs.YtfgechefinijbaaDoorW.PrintWords Go.Proofs.YtfgechefinijbaaDoorW.PrintLast Go.Proofs.YtfgechefinijbaaDoor.Pk Go.Proofs.YtfgechefinijbaaDoor.Giv Go.Proofs.YtfgechefinijbaaDoor.Ord
set_option linter.unusedVariables false

theorem rs_j4 (a b : List ByteArray) (i : Nat) (x y : ByteArray) (hx : x.size < 4611686018427387904) (hy : y.size < 4611686018427387904) (V : Int) (nx : Ev (fun k => spec_RubySegments.l0 k a b (wrap64 ((i : Int) + 1))) V) :
    Ev (fun k => spec_RubySegments.j3 k a b (i : Int) x y) (if Seg.segS x.toList y.toList = 0 then V else Seg.segS x.toList y.toList) := by
  have on := orderNumbers_ev x y hx hy
  refine Ev.step (fun k => by rw [spec_RubySegments.j3]) ?_
  refine (allDigits_ev x hx).bind ((allDigits_ev y hy).bind ?_)
  have tail : ∀ dx dy : Bool, Num.digits x.toList = dx → Num.digits y.toList = dy → Ev (fun k => spec_RubySegments.j4 k a b (i : Int) x y dx dy (dx && dy)) (if Seg.segS x.toList y.toList = 0 then V else Seg.segS x.toList y.toList) := by
    intro dx dy e1 e2
    refine Ev.step (fun k => by rw [spec_RubySegments.j4]) ?_
    unfold Seg.segS
    rw [e1, e2]
    cases dx with
    | true =>
      cases dy with
      | true =>
        refine ev_pos rfl (on.bind ?_)
        simp only [Bool.and_self, if_true]
        by_cases h : Rpm.numC x.toList y.toList = 0
        · rw [if_pos h]
          exact ev_pos h nx
        · rw [if_neg h]
          exact ev_neg h (Ev.now _)
      | false =>
        refine ev_neg (by simp) (ev_pos rfl (ev_neg (by decide) ?_))
        exact Ev.now _
    | false =>
      cases dy with
      | true =>
        refine ev_neg (by simp) (ev_neg (by simp) (ev_pos rfl (ev_neg (by decide) ?_)))
        exact Ev.now _
      | false =>
        refine ev_neg (by simp) (ev_neg (by simp) (ev_neg (by simp) (ev_some ?_)))
        simp only [Bool.and_self, Bool.false_eq_true, if_false]
        by_cases h : cS x.toList y.toList = 0
        · rw [if_pos h]
          exact ev_pos h nx
        · rw [if_neg h]
          exact ev_neg h (Ev.now _)
  cases hd : Num.digits x.toList with
  | true =>
    refine ev_pos rfl ?_
    have := tail true (Num.digits y.toList) hd rfl
    rw [Bool.true_and] at this
    exact this
  | false =>
    refine ev_neg (by simp) ?_
    have := tail false (Num.digits y.toList) hd rfl
    rw [Bool.false_and] at this
    exact this
theorem size_get {l : List ByteArray} (hs : ∀ s ∈ l, s.size < 4611686018427387904) (k : Nat) : (l.getD k ⟨#[48]⟩).size < 4611686018427387904 := by
  rw [List.getD_eq_getElem?_getD]
  cases hk : l[k]? with
  | none => exact Nat.lt_of_le_of_lt z48 (by decide)
  | some x => exact hs x (List.mem_of_getElem? hk)
theorem rs_loop (a b : List ByteArray) (ha : a.length < 4611686018427387904) (hb : b.length < 4611686018427387904) (hsa : ∀ s ∈ a, s.size < 4611686018427387904) (hsb : ∀ s ∈ b, s.size < 4611686018427387904) (n : Nat) (hn : n = max a.length b.length) (d : Nat) : ∀ i : Nat, i + d = n →
    Ev (fun k => spec_RubySegments.l0 k a b (i : Int)) (padN Seg.segS (⟨#[48]⟩ : ByteArray).toList (n - i) ((tl a).drop i) ((tl b).drop i)) := by
  have g : ∀ (l : List ByteArray) (i : Nat) (h : i < l.length), rdOf ByteArray.empty l (i : Int) = l.getD i ⟨#[48]⟩ := by
    intro l i h
    rw [rdOf_nat _ _ i h, List.getD_eq_getElem?_getD, List.getElem?_eq_getElem h]
    rfl
  have g0 : ∀ (l : List ByteArray) (i : Nat) (h : ¬ i < l.length), l.getD i ⟨#[48]⟩ = (⟨#[48]⟩ : ByteArray) := by
    intro l i h
    rw [List.getD_eq_getElem?_getD, List.getElem?_eq_none (by omega)]
    rfl
  induction d with
  | zero =>
    intro i hi
    refine Ev.step (fun k => by rw [spec_RubySegments.l0]) ?_
    rw [show n - i = 0 by omega]
    refine ev_neg (by omega) ?_
    rw [decide_eq_false (by omega)]
    refine Ev.step (fun k => by rw [spec_RubySegments.j1]) ?_
    exact ev_neg (by simp) (Ev.now _)
  | succ d ih =>
    intro i hi
    have w := wr i (by omega)
    have nx := ih (i + 1) (by omega)
    rw [← w] at nx
    have j3 := rs_j4 a b i _ _ (size_get hsa i) (size_get hsb i) _ nx
    rw [pad_step Seg.segS ⟨#[48]⟩ a b n i (by omega)]
    have j2 : Ev (fun k => spec_RubySegments.j2 k a b (i : Int) (a.getD i ⟨#[48]⟩) ⟨#[48]⟩) (if Seg.segS (a.getD i ⟨#[48]⟩).toList (b.getD i ⟨#[48]⟩).toList = 0 then padN Seg.segS (⟨#[48]⟩ : ByteArray).toList (n - (i + 1)) ((tl a).drop (i + 1)) ((tl b).drop (i + 1)) else Seg.segS (a.getD i ⟨#[48]⟩).toList (b.getD i ⟨#[48]⟩).toList) := by
      refine Ev.step (fun k => by rw [spec_RubySegments.j2]) ?_
      by_cases h : i < b.length
      · refine ev_pos (by omega) (ev_pos (by omega) ?_)
        rw [g b i h]
        exact j3
      · refine ev_neg (by omega) ?_
        rw [g0 b i h] at j3 ⊢
        exact j3
    have j1 : Ev (fun k => spec_RubySegments.j1 k a b (i : Int) true) (if Seg.segS (a.getD i ⟨#[48]⟩).toList (b.getD i ⟨#[48]⟩).toList = 0 then padN Seg.segS (⟨#[48]⟩ : ByteArray).toList (n - (i + 1)) ((tl a).drop (i + 1)) ((tl b).drop (i + 1)) else Seg.segS (a.getD i ⟨#[48]⟩).toList (b.getD i ⟨#[48]⟩).toList) := by
      refine Ev.step (fun k => by rw [spec_RubySegments.j1]) ?_
      refine ev_pos rfl ?_
      by_cases h : i < a.length
      · refine ev_pos (by omega) (ev_pos (by omega) ?_)
        rw [g a i h]
        exact j2
      · refine ev_neg (by omega) ?_
        rw [g0 a i h] at j2 ⊢
        exact j2
    refine Ev.step (fun k => by rw [spec_RubySegments.l0]) ?_
    by_cases h : i < a.length
    · exact ev_pos (by omega) j1
    · refine ev_neg (by omega) ?_
      rw [decide_eq_true (by omega)]
      exact j1
theorem specRuby_ev (a b : List ByteArray) (ha : a.length < 4611686018427387904) (hb : b.length < 4611686018427387904) (hsa : ∀ s ∈ a, s.size < 4611686018427387904) (hsb : ∀ s ∈ b, s.size < 4611686018427387904) : Ev (fun k => spec_RubySegments.f k a b) (padL Seg.segS [48] (tl a) (tl b)) := by
  have := rs_loop a b ha hb hsa hsb _ rfl _ 0 (Nat.zero_add _)
  unfold padL
  rw [tl_len, tl_len, ← zero_lit]
  exact this
/-- Over texts without signs the program's order is the reference's. -/
theorem specRuby_same (a b : List ByteArray) (ha : idK a = true) (hb : idK b = true) : padL Seg.segS [48] (tl a) (tl b) = padL Seg.segC [48] (tl a) (tl b) := by
  unfold padL
  refine Seg.padN_congr (p := fun x => Seg.signed x = false) (by decide) (fun x y hx hy => Seg.segS_eq hx hy) _ _ _ (idK_tl ha) (idK_tl hb)
theorem fit_of {l : List ByteArray} (h : shortB l = true) : fit l = true := by
  unfold fit
  rw [Bool.and_eq_true, List.all_eq_true]
  refine ⟨decide_eq_true (by have := short_len h; omega), fun s hs => decide_eq_true (by have := short_sizes h s hs; omega)⟩
theorem small_of {l : List ByteArray} (h : shortB l = true) : l.length < 4611686018427387904 ∧ ∀ s ∈ l, s.size < 4611686018427387904 :=
  ⟨by have := short_len h; omega, fun s hs => by have := short_sizes h s hs; omega⟩
end Go.Proofs.YtfgechefinijbaaDoor.QG

namespace Go.Proofs.YtfgechefinijbaaDoor.QG
open Go.RowKit Go.Proofs.YtfgechefinijbaaDoorW.PrintWords Go.Proofs.YtfgechefinijbaaDoorW.PrintLast Go.Proofs.YtfgechefinijbaaDoor.Pk Go.Proofs.YtfgechefinijbaaDoor.Giv Go.Proofs.YtfgechefinijbaaDoor.Ord Go.Proofs.YtfgechefinijbaaDoor.Canon
set_option linter.unusedVariables false

theorem ascB_asc {s : ByteArray} (h : ascB s = true) : asc s := by
  intro i hi
  unfold ascB at h
  rw [List.all_eq_true] at h
  have m : s[i]'hi ∈ s.toList := by
    rw [← getElem_toList s i hi]
    exact List.getElem_mem _
  simpa using h _ m
theorem canon_pieces {s : ByteArray} (h : ascB s = true) : (Cut.cutAt 46 (canon false true s.toList)).map bs = QR.pieces s := by
  unfold QR.pieces
  rw [canonS_asc s (ascB_asc h)]
theorem cutP_f (l : List UInt8) (h : l.length ≤ 40000) : Giv.spec_cut_isPoint.f (bs l) = some ((Cut.cutAt 46 l).map bs) := by
  unfold Giv.spec_cut_isPoint.f
  rw [bs_size, if_pos h, bs_toList]
/-- Is it said how this text compares? -/
def rubyK (s : ByteArray) : Bool := ascB s && rbK (QR.pieces s)
theorem rubyK_asc {s : ByteArray} (h : rubyK s = true) : ascB s = true := by
  unfold rubyK at h
  rw [Bool.and_eq_true] at h
  exact h.1
theorem canon_len {s : ByteArray} (h : ascB s = true) (hs : s.size ≤ 1500) : (canon false true s.toList).length ≤ 40000 := by
  have := canonS_len s
  rw [canonS_asc s (ascB_asc h)] at this
  omega
theorem rubyKnown_ev (s : ByteArray) (hs : s.size ≤ 1500) : Ev (fun k => spec_RubyKnown.f k s) (rubyK s) := by
  unfold spec_RubyKnown.f rubyK
  refine (ascii_ev s (by omega)).bind ?_
  cases h : ascB s with
  | false => exact ev_neg (by simp) (Ev.now _)
  | true =>
    obtain ⟨pl, pm⟩ := QR.pieces_small s hs
    refine ev_pos rfl ((specCanon_ev s (by omega)).bind ?_)
    rw [cutP_f _ (canon_len h hs), canon_pieces h]
    refine ev_some ((rbKnown_ev (QR.pieces s) (by omega) (fun x hx => by have := pm x hx; omega)).bind ?_)
    exact Ev.now _
theorem rubyCmp_ev (a b : ByteArray) (ha : a.size ≤ 1500) (hb : b.size ≤ 1500) : Ev (fun k => Giv.impl_RubyCompare.f k a b) (padL Seg.segC [48] (tl (QR.rubySegs a)) (tl (QR.rubySegs b)), true) := by
  unfold Giv.impl_RubyCompare.f
  refine (QR.rubyParse_ev a ha).bind ((QR.rubyParse_ev b hb).bind ?_)
  show Ev (fun k => (QR.semantic_RubyGemsVersion_compare.f a (QR.rubySegs a) b (QR.rubySegs b)).bind _) _
  rw [QR.rubyCompare_ev a b ha hb]
  exact ev_some (Ev.now _)
end Go.Proofs.YtfgechefinijbaaDoor.QG

namespace Go.Proofs.YtfgechefinijbaaDoor.QG
open Go.RowKit Go.Proofs.YtfgechefinijbaaDoorW.PrintWords Go.Proofs.YtfgechefinijbaaDoorW.PrintLast Go.Proofs.YtfgechefinijbaaDoor.Pk Go.Proofs.YtfgechefinijbaaDoor.Giv Go.Proofs.YtfgechefinijbaaDoor.Ord Go.Proofs.YtfgechefinijbaaDoor.Canon
set_option linter.unusedVariables false

theorem isLetter_ex (x : Int) : ∃ b, spec_isLetter.f x = some b := by
  unfold spec_isLetter.f
  repeat' split
  all_goals exact ⟨_, rfl⟩
theorem valid_l1 (s : ByteArray) (l : List ByteArray) (i : Nat) (hi : i < l.length) (hs : (l[i]'hi).size < 4611686018427387904) (P : Prop) (nx : (l[i]'hi).toList ≠ [] → ∃ b, Ev (fun k => spec_GemValid.l0 k s l (wrap64 ((i : Int) + 1))) b ∧ (b = true → P)) (d : Nat) : ∀ j : Nat, j + d = (l[i]'hi).size →
    ∃ b, Ev (fun k => spec_GemValid.l1 k s l (i : Int) (j : Int)) b ∧ (b = true → (l[i]'hi).toList ≠ [] ∧ P) := by
  have r := rdOf_nat ByteArray.empty l i hi
  induction d with
  | zero =>
    intro j hj
    by_cases he : (l[i]'hi).toList = []
    · refine ⟨false, Ev.step (fun k => by rw [spec_GemValid.l1, r]) ?_, fun h => absurd h (by simp)⟩
      exact ev_pos (by omega) (ev_pos (by omega) (ev_neg (by omega) (ev_pos he (Ev.now _))))
    · obtain ⟨b, e, hb⟩ := nx he
      refine ⟨b, Ev.step (fun k => by rw [spec_GemValid.l1, r]) ?_, fun h => ⟨he, hb h⟩⟩
      exact ev_pos (by omega) (ev_pos (by omega) (ev_neg (by omega) (ev_neg he e)))
  | succ d ih =>
    intro j hj
    have hlt : j < (l[i]'hi).size := by omega
    have bt' := bt_nat (l[i]'hi) j hlt
    have w := wr j (by omega)
    obtain ⟨b, e, hb⟩ := ih (j + 1) (by omega)
    rw [← w] at e
    obtain ⟨c, hc⟩ := isLetter_ex (((l[i]'hi)[j]'hlt).toNat : Int)
    cases hd : Rpm.dig ((l[i]'hi)[j]'hlt) with
    | true =>
      refine ⟨b, Ev.step (fun k => by rw [spec_GemValid.l1, r, bt', isDigit_f, hd]) ?_, hb⟩
      exact ev_pos (by omega) (ev_pos (by omega) (ev_pos (by omega) (ev_pos (by omega) (ev_some (ev_pos rfl e)))))
    | false =>
      cases c with
      | true =>
        refine ⟨b, Ev.step (fun k => by rw [spec_GemValid.l1, r, bt', isDigit_f, hd, hc]) ?_, hb⟩
        exact ev_pos (by omega) (ev_pos (by omega) (ev_pos (by omega) (ev_pos (by omega) (ev_some (ev_neg (by simp) (ev_some (ev_pos rfl e)))))))
      | false =>
        refine ⟨false, Ev.step (fun k => by rw [spec_GemValid.l1, r, bt', isDigit_f, hd, hc]) ?_, fun h => absurd h (by simp)⟩
        exact ev_pos (by omega) (ev_pos (by omega) (ev_pos (by omega) (ev_pos (by omega) (ev_some (ev_neg (by simp) (ev_some (ev_neg (by simp) (Ev.now _))))))))
theorem valid_l0 (s : ByteArray) (hs : s.size ≤ 1500) (l : List ByteArray) (hl : l.length < 4611686018427387904) (h0 : 0 < l.length) (hz : ∀ x ∈ l, x.size < 4611686018427387904) (d : Nat) : ∀ i : Nat, i + d = l.length →
    ∃ b, Ev (fun k => spec_GemValid.l0 k s l (i : Int)) b ∧ (b = true → (∀ x ∈ l.drop i, x.toList ≠ []) ∧ rubyK s = true) := by
  induction d with
  | zero =>
    intro i hi
    have r := rdOf_nat ByteArray.empty l 0 h0
    have a := allDigits_ev (l[0]'h0) (hz _ (List.getElem_mem h0))
    cases hd : Num.digits (l[0]'h0).toList with
    | false =>
      rw [hd] at a
      refine ⟨false, Ev.step (fun k => by rw [spec_GemValid.l0]) ?_, fun h => absurd h (by simp)⟩
      refine ev_neg (by omega) (ev_pos (by omega) ?_)
      rw [show (0 : Int) = ((0 : Nat) : Int) from rfl, r]
      exact a.bind (ev_neg (by simp) (Ev.now _))
    | true =>
      rw [hd] at a
      refine ⟨rubyK s, Ev.step (fun k => by rw [spec_GemValid.l0]) ?_, fun h => ⟨?_, h⟩⟩
      · refine ev_neg (by omega) (ev_pos (by omega) ?_)
        rw [show (0 : Int) = ((0 : Nat) : Int) from rfl, r]
        exact a.bind (ev_pos rfl ((rubyKnown_ev s hs).bind (Ev.now _)))
      · rw [List.drop_of_length_le (by omega)]
        simp
  | succ d ih =>
    intro i hi
    have hlt : i < l.length := by omega
    have w := wr i (by omega)
    obtain ⟨b, e, hb⟩ := ih (i + 1) (by omega)
    rw [← w] at e
    obtain ⟨b1, e1, hb1⟩ := valid_l1 s l i hlt (hz _ (List.getElem_mem hlt)) _ (fun _ => ⟨b, e, hb⟩) _ 0 (Nat.zero_add _)
    refine ⟨b1, Ev.step (fun k => by rw [spec_GemValid.l0]) ?_, fun h => ?_⟩
    · exact ev_pos (by omega) e1
    obtain ⟨q1, q2, q3⟩ := hb1 h
    refine ⟨fun x hx => ?_, q3⟩
    rw [List.drop_eq_getElem_cons hlt] at hx
    rcases List.mem_cons.1 hx with h | h
    · rw [h]; exact q1
    · exact q2 x h
theorem gemValid_ev (s : ByteArray) (hs : s.size ≤ 1500) : ∃ b, Ev (fun k => spec_GemValid.f k s) b ∧ (b = true → full s.toList ∧ rubyK s = true) := by
  have hz := Cut.cutAt_sizes 46 s.toList
  rw [len_toList] at hz
  have c : Giv.spec_cut_isPoint.f s = some ((Cut.cutAt 46 s.toList).map bs) := by
    unfold Giv.spec_cut_isPoint.f
    rw [if_pos (by omega)]
  have hne := List.length_pos_iff.2 (Cut.cutAt_ne 46 s.toList)
  obtain ⟨b, e, hb⟩ := valid_l0 s hs ((Cut.cutAt 46 s.toList).map bs) (by rw [List.length_map]; omega) (by rw [List.length_map]; exact hne) (fun x hx => by
    obtain ⟨y, hy, rfl⟩ := List.mem_map.1 hx
    rw [bs_size]
    have := hz.2 y hy
    omega) _ 0 (Nat.zero_add _)
  refine ⟨b, ?_, fun h => ⟨fun p hp e => ?_, (hb h).2⟩⟩
  · unfold spec_GemValid.f
    rw [c]
    exact ev_some e
  · have := (hb h).1 (bs p) (by rw [List.drop_zero]; exact List.mem_map_of_mem hp)
    rw [bs_toList] at this
    exact this e
theorem tw_go (p : UInt8 → Bool) : ∀ (l : List UInt8) (j : Nat), j < (l.takeWhile p).length → ∃ h : j < l.length, p (l[j]'h) = true
  | [], j, h => absurd h (by simp)
  | x :: l, j, h => by
    by_cases hx : p x = true
    · rw [List.takeWhile_cons_of_pos hx, List.length_cons] at h
      cases j with
      | zero => exact ⟨by simp, hx⟩
      | succ j =>
        obtain ⟨h1, h2⟩ := tw_go p l j (by omega)
        exact ⟨by simp; omega, h2⟩
    · rw [List.takeWhile_cons_of_neg hx] at h
      exact absurd h (by simp)
theorem tw_stop (p : UInt8 → Bool) : ∀ (l : List UInt8) (h : (l.takeWhile p).length < l.length), p (l[(l.takeWhile p).length]'h) = false
  | [], h => absurd h (by simp)
  | x :: l, h => by
    by_cases hx : p x = true
    · have h' := h
      rw [List.takeWhile_cons_of_pos hx, List.length_cons, List.length_cons] at h'
      have := tw_stop p l (by omega)
      have e : ((x :: l).takeWhile p).length = (l.takeWhile p).length + 1 := by rw [List.takeWhile_cons_of_pos hx, List.length_cons]
      simp only [e, List.getElem_cons_succ]
      exact this
    · have e : ((x :: l).takeWhile p).length = 0 := by rw [List.takeWhile_cons_of_neg hx]; rfl
      simp only [e, List.getElem_cons_zero]
      simpa using hx
/-- A run's end. -/
def re (s : ByteArray) (i : Nat) (c : UInt8) : Nat := i + 1 + ((s.toList.drop (i + 1)).takeWhile (same c)).length
theorem re_le (s : ByteArray) (i : Nat) (c : UInt8) (h : i < s.size) : re s i c ≤ s.size := by
  have := tw_le (same c) (s.toList.drop (i + 1))
  rw [List.length_drop, len_toList] at this
  unfold re
  omega
theorem at_drop (s : ByteArray) (i j : Nat) (h : j < (s.toList.drop i).length) (h2 : i + j < s.size) : (s.toList.drop i)[j]'h = s[i + j]'h2 := by
  rw [List.getElem_drop, getElem_toList s (i + j) h2]
theorem re_in (s : ByteArray) (i k : Nat) (c : UInt8) (hi : i < k) (hk : k < re s i c) : ∃ h : k < s.size, same c (s[k]'h) = true := by
  unfold re at hk
  obtain ⟨h1, h2⟩ := tw_go (same c) (s.toList.drop (i + 1)) (k - (i + 1)) (by omega)
  have h3 := h1
  rw [List.length_drop, len_toList] at h3
  have h4 : k < s.size := by omega
  refine ⟨h4, ?_⟩
  rw [at_drop s (i + 1) _ h1 (by omega)] at h2
  have e : i + 1 + (k - (i + 1)) = k := by omega
  simp only [e] at h2
  exact h2
theorem re_out (s : ByteArray) (i : Nat) (c : UInt8) (h : re s i c < s.size) : same c (s[re s i c]'h) = false := by
  have h1 : ((s.toList.drop (i + 1)).takeWhile (same c)).length < (s.toList.drop (i + 1)).length := by
    rw [List.length_drop, len_toList]
    unfold re at h
    omega
  have := tw_stop (same c) (s.toList.drop (i + 1)) h1
  rw [at_drop s (i + 1) _ h1 (by unfold re at h; omega)] at this
  exact this
theorem gr_l1 (s : ByteArray) (hs : s.size < 100000) (out : List ByteArray) (hout : out.length < 1000000) (i : Nat) (hi : i < s.size) (hc : s[i]'hi ≠ 46) (V : List ByteArray) (E : Nat) (le : E ≤ s.size) (hin : ∀ k, i < k → k < E → ∃ h : k < s.size, same (s[i]'hi) (s[k]'h) = true) (hout' : ∀ h : E < s.size, same (s[i]'hi) (s[E]'h) = false) (nx : Ev (fun k => spec_gemRuns.l0 k s (out ++ [s.extract i E]) ((E : Nat) : Int)) V) (d : Nat) : ∀ k : Nat, k + d = E → i < k →
    Ev (fun n => spec_gemRuns.l1 n s out (i : Int) (k : Int)) V := by
  have b := bt_nat s i hi
  have hn : ¬ ((s[i]'hi).toNat : Int) = 46 := fun h => hc (UInt8.toNat_inj.1 (by have : (46 : UInt8).toNat = 46 := rfl; omega))
  have nx2 : ∀ k : Nat, k = E → Ev (fun n => spec_gemRuns.l0 n s (out ++ [s.extract (i : Int).toNat (k : Int).toNat]) (k : Int)) V := by
    rintro k rfl
    simp only [Int.toNat_natCast]
    exact nx
  induction d with
  | zero =>
    intro k hk hik
    have e : k = E := by omega
    have nk := nx2 k e
    by_cases hlt : k < s.size
    · have bk := bt_nat s k hlt
      have ro : same (s[i]'hi) (s[k]'hlt) = false := by
        have := hout' (by omega)
        simp only [← e] at this
        exact this
      refine Ev.step (fun n => by rw [spec_gemRuns.l1, b, bk]) ?_
      refine ev_pos (by omega) (ev_pos (by omega) (ev_pos (by omega) (ev_neg hn (ev_pos (by omega) ?_))))
      by_cases h46 : s[k]'hlt = 46
      · exact ev_pos (by rw [h46]; rfl) (ev_pos (by omega) (ev_pos (by omega) (ev_pos (by omega) nk)))
      · have hn2 : ¬ ((s[k]'hlt).toNat : Int) = 46 := fun h => h46 (UInt8.toNat_inj.1 (by have : (46 : UInt8).toNat = 46 := rfl; omega))
        have hb : ((s[k]'hlt) == 46) = false := by simpa using h46
        have hd : (Rpm.dig (s[k]'hlt) == Rpm.dig (s[i]'hi)) = false := by
          unfold same at ro
          rw [hb] at ro
          simpa using ro
        refine ev_neg hn2 ?_
        rw [isDigit_f, isDigit_f, ]
        refine ev_some (ev_some ?_)
        rw [hd]
        exact ev_neg (by simp) (ev_pos (by omega) (ev_pos (by omega) (ev_pos (by omega) nk)))
    · refine Ev.step (fun n => by rw [spec_gemRuns.l1, b]) ?_
      exact ev_neg (by omega) (ev_pos (by omega) (ev_pos (by omega) (ev_neg hn (ev_pos (by omega) (ev_pos (by omega) (ev_pos (by omega) nk))))))
  | succ d ih =>
    intro k hk hik
    have n1 := ih (k + 1) (by omega) (by omega)
    have w := wr k (by omega)
    obtain ⟨hlt, hsame⟩ := hin k hik (by omega)
    have bk := bt_nat s k hlt
    rw [← w] at n1
    unfold same at hsame
    rw [Bool.and_eq_true] at hsame
    have hn2 : ¬ ((s[k]'hlt).toNat : Int) = 46 := fun h => by
      have e : s[k]'hlt = 46 := UInt8.toNat_inj.1 (by have : (46 : UInt8).toNat = 46 := rfl; omega)
      rw [e] at hsame
      exact absurd hsame.1 (by decide)
    refine Ev.step (fun n => by rw [spec_gemRuns.l1, b, bk]) ?_
    refine ev_pos (by omega) (ev_pos (by omega) (ev_pos (by omega) (ev_neg hn (ev_pos (by omega) (ev_neg hn2 ?_)))))
    rw [isDigit_f, isDigit_f]
    refine ev_some (ev_some (ev_pos hsame.2 n1))
theorem gr_l0 (s : ByteArray) (hs : s.size < 100000) : ∀ (n : Nat) (i : Nat) (out : List ByteArray), s.size - i ≤ n → i ≤ s.size → out.length + (s.size - i) < 1000000 →
    Ev (fun k => spec_gemRuns.l0 k s out (i : Int)) (out ++ (runs n (s.toList.drop i)).map bs) := by
  intro n
  induction n with
  | zero =>
    intro i out h hi ho
    refine Ev.step (fun k => by rw [spec_gemRuns.l0]) ?_
    have e : out ++ (runs 0 (s.toList.drop i)).map bs = out := by simp [runs]
    rw [e]
    exact ev_neg (by omega) (Ev.now _)
  | succ n ih =>
    intro i out h hi ho
    by_cases hlt : i < s.size
    · have w := wr i (by omega)
      have b := bt_nat s i hlt
      have dr := drop_at s i hlt
      refine Ev.step (fun k => by rw [spec_gemRuns.l0, w]) ?_
      refine ev_pos (by omega) ?_
      by_cases h46 : s[i]'hlt = 46
      · have hn : ((s[i]'hlt).toNat : Int) = 46 := by rw [h46]; rfl
        have nx := ih (i + 1) out (by omega) (by omega) (by omega)
        rw [dr, runs, if_pos h46]
        refine Ev.step (fun k => by rw [spec_gemRuns.l1, b]) ?_
        by_cases hk : i + 1 < s.size
        · exact ev_pos (by omega) (ev_pos (by omega) (ev_pos (by omega) (ev_pos hn nx)))
        · exact ev_neg (by omega) (ev_pos (by omega) (ev_pos (by omega) (ev_pos hn nx)))
      · have ex : s.extract i (re s i (s[i]'hlt)) = bs (s[i]'hlt :: (s.toList.drop (i + 1)).takeWhile (same (s[i]'hlt))) := by
          refine bs_eq ?_
          rw [ext_toList, dr]
          have : re s i (s[i]'hlt) - i = ((s.toList.drop (i + 1)).takeWhile (same (s[i]'hlt))).length + 1 := by unfold re; omega
          rw [this, List.take_succ_cons, take_tw]
        have dx : s.toList.drop (re s i (s[i]'hlt)) = (s.toList.drop (i + 1)).dropWhile (same (s[i]'hlt)) := by
          unfold re
          rw [← List.drop_drop, drop_tw]
        have le := re_le s i (s[i]'hlt) hlt
        have gt : i + 1 ≤ re s i (s[i]'hlt) := by unfold re; exact Nat.le_add_right _ _
        have hin := fun k (h1 : i < k) (h2 : k < re s i (s[i]'hlt)) => re_in s i k (s[i]'hlt) h1 h2
        have ho' := re_out s i (s[i]'hlt)
        generalize re s i (s[i]'hlt) = E at *
        refine gr_l1 s hs out (by omega) i hlt h46 _ E le hin ho' ?_ (E - (i + 1)) (i + 1) (by omega) (by omega)
        have nx := ih E (out ++ [s.extract i E]) (by omega) le (by rw [List.length_append, List.length_singleton]; omega)
        rw [dr, runs, if_neg h46, List.map_cons, ← ex, ← dx]
        rw [List.append_assoc] at nx
        exact nx
    · refine Ev.step (fun k => by rw [spec_gemRuns.l0]) ?_
      have e : out ++ (runs (n + 1) (s.toList.drop i)).map bs = out := by
        rw [List.drop_of_length_le (by rw [len_toList]; omega), runs_nil]
        simp
      rw [e]
      exact ev_neg (by omega) (Ev.now _)
theorem gemRuns_ev (s : ByteArray) (hs : s.size ≤ 1500) (hf : full s.toList) (ha : ascB s = true) : Ev (fun k => spec_gemRuns.f k s) (QR.pieces s) := by
  have := gr_l0 s (by omega) s.size 0 [] (by omega) (by omega) (by simp; omega)
  rw [List.drop_zero, List.nil_append, ← canon_runs s.size s.toList (by rw [len_toList]; exact Nat.le_refl _) hf, canon_pieces ha] at this
  exact this
theorem gf_l1 (l : List ByteArray) (hl : l.length < 1000000) (m : Nat) (hm : m ≤ l.length) : ∀ n : Nat, n ≤ l.length → Ev (fun k => spec_gemFirst.l1 k l (m : Int) (n : Int)) (l.take (cutZ l n) ++ l.drop m) := by
  have fin : ∀ n : Nat, n ≤ l.length → l.take n ++ l.drop m = ([] : List ByteArray) ++ l.take n ++ l.drop m := fun n _ => by simp
  intro n
  induction n with
  | zero =>
    intro _
    refine Ev.step (fun k => by rw [spec_gemFirst.l1]) ?_
    refine ev_neg (by omega) (ev_pos (by omega) (ev_pos (by omega) (ev_pos (by simp) (ev_some (ev_pos (by omega) (ev_pos (by omega) (ev_pos ?_ ?_)))))))
    · simp only [List.length_append, List.length_nil, List.length_take, List.length_drop, Int.toNat_natCast]
      omega
    · simp only [Int.toNat_natCast, List.nil_append]
      exact Ev.now _
  | succ n ih =>
    intro h
    have w : wrap64 (((n + 1 : Nat) : Int) - 1) = (n : Int) := by unfold wrap64; omega
    have r := rd_getD l n (by omega)
    refine Ev.step (fun k => by rw [spec_gemFirst.l1, w, r]) ?_
    refine ev_pos (by omega) (ev_pos (by omega) (ev_pos (by omega) ?_))
    rw [cutZ]
    by_cases hz : (l.getD n ⟨#[]⟩).toList = [48]
    · rw [if_pos hz]
      exact ev_pos hz (ih (by omega))
    · rw [if_neg hz]
      refine ev_neg hz (ev_pos (by omega) (ev_pos (by omega) (ev_pos ?_ (ev_some (ev_pos (by omega) (ev_pos (by omega) (ev_pos ?_ ?_)))))))
      · simp only [List.length_nil, List.length_take]
        omega
      · simp only [List.length_append, List.length_nil, List.length_take, List.length_drop, Int.toNat_natCast]
        omega
      · simp only [Int.toNat_natCast, List.nil_append]
        exact Ev.now _
theorem gf_l0 (l : List ByteArray) (hl : l.length < 1000000) (hz : ∀ x ∈ l, x.size < 4611686018427387904) (d : Nat) : ∀ i : Nat, i + d = l.length → (l.take i).all (fun x => Num.digits x.toList) = true →
    Ev (fun k => spec_gemFirst.l0 k l (i : Int)) (trimZ (l.takeWhile (fun x => Num.digits x.toList)) ++ l.dropWhile (fun x => Num.digits x.toList)) := by
  have fin : ∀ i : Nat, i ≤ l.length → l.take i = l.takeWhile (fun x => Num.digits x.toList) → l.drop i = l.dropWhile (fun x => Num.digits x.toList) → Ev (fun k => spec_gemFirst.j1 k l (i : Int)) (trimZ (l.takeWhile (fun x => Num.digits x.toList)) ++ l.dropWhile (fun x => Num.digits x.toList)) := by
    intro i hi e1 e2
    have g := gf_l1 l hl i hi i hi
    refine Ev.step (fun k => by rw [spec_gemFirst.j1]) ?_
    have e : trimZ (l.takeWhile (fun x => Num.digits x.toList)) = l.take (cutZ l i) := by
      rw [← e1]
      unfold trimZ
      have hlen : (l.take i).length = i := by rw [List.length_take]; omega
      rw [hlen, cutZ_take l i i (Nat.le_refl _), List.take_take, Nat.min_eq_left (cutZ_le l i)]
    rw [e, ← e2]
    exact g
  have tw_at' : ∀ (i : Nat), (l.take i).all (fun x => Num.digits x.toList) = true → (∀ h : i < l.length, Num.digits (l[i]'h).toList = false) → i ≤ l.length → l.take i = l.takeWhile (fun x => Num.digits x.toList) ∧ l.drop i = l.dropWhile (fun x => Num.digits x.toList) := by
    intro i h1 h2 h3
    have e := take_while_at (fun x : ByteArray => Num.digits x.toList) l i h1 h2 h3
    have a : l.take i = l.takeWhile (fun x => Num.digits x.toList) := by rw [← e]; exact take_while_take _ l
    refine ⟨a, ?_⟩
    have b := List.take_append_drop i l
    have c := List.takeWhile_append_dropWhile (p := fun x : ByteArray => Num.digits x.toList) (l := l)
    rw [a] at b
    exact List.append_cancel_left (b.trans c.symm)
  induction d with
  | zero =>
    intro i hi ha
    obtain ⟨e1, e2⟩ := tw_at' i ha (fun h => absurd h (by omega)) (by omega)
    refine Ev.step (fun k => by rw [spec_gemFirst.l0]) ?_
    exact ev_neg (by omega) (fin i (by omega) e1 e2)
  | succ d ih =>
    intro i hi ha
    have hlt : i < l.length := by omega
    have r := rdOf_nat ByteArray.empty l i hlt
    have w := wr i (by omega)
    have a := allDigits_ev (l[i]'hlt) (hz _ (List.getElem_mem hlt))
    refine Ev.step (fun k => by rw [spec_gemFirst.l0, r, w]) ?_
    refine ev_pos (by omega) (ev_pos (by omega) (a.bind ?_))
    cases hd : Num.digits (l[i]'hlt).toList with
    | true =>
      refine ev_pos rfl (ih (i + 1) (by omega) ?_)
      rw [List.take_succ_eq_append_getElem hlt, List.all_append, ha]
      simp [hd]
    | false =>
      obtain ⟨e1, e2⟩ := tw_at' i ha (fun _ => hd) (by omega)
      exact ev_neg (by simp) (fin i (by omega) e1 e2)
/-- Of unsigned pieces, a number is digits. -/
theorem num_digits {x : ByteArray} (h : Seg.signed x.toList = false) : isNum x = Num.digits x.toList := by
  unfold isNum
  rw [Seg.parse_plain h]
  cases Num.digits x.toList <;> rfl
theorem tw_congr {p q : ByteArray → Bool} : ∀ {l : List ByteArray}, (∀ x ∈ l, p x = q x) → l.takeWhile p = l.takeWhile q ∧ l.dropWhile p = l.dropWhile q
  | [], _ => ⟨rfl, rfl⟩
  | x :: l, h => by
    have e := h x List.mem_cons_self
    obtain ⟨a, b⟩ := tw_congr (l := l) (fun y hy => h y (List.mem_cons_of_mem _ hy))
    by_cases hp : p x = true
    · have hq : q x = true := by rw [← e]; exact hp
      rw [List.takeWhile_cons_of_pos hp, List.takeWhile_cons_of_pos hq, List.dropWhile_cons_of_pos hp, List.dropWhile_cons_of_pos hq, a, b]
      exact ⟨rfl, rfl⟩
    · have hq : ¬ q x = true := by rw [← e]; exact hp
      rw [List.takeWhile_cons_of_neg hp, List.takeWhile_cons_of_neg hq, List.dropWhile_cons_of_neg hp, List.dropWhile_cons_of_neg hq]
      exact ⟨rfl, rfl⟩
theorem rubyK_ids {s : ByteArray} (h : rubyK s = true) : idK (QR.pieces s) = true := by
  unfold rubyK at h
  rw [Bool.and_eq_true] at h
  exact rbK_id h.2
theorem gemSegs_ev (s : ByteArray) (hs : s.size ≤ 1500) (hf : full s.toList) (hk : rubyK s = true) : Ev (fun k => spec_gemRuns.f k s) (QR.pieces s) ∧ ∃ m, Ev (fun k => spec_gemFirst.f k (QR.pieces s)) m ∧ Ev (fun k => spec_RubyTrim.f k m) (QR.rubySegs s) := by
  obtain ⟨pl, pm⟩ := QR.pieces_small s hs
  have ids := rubyK_ids hk
  refine ⟨gemRuns_ev s hs hf (rubyK_asc hk), _, gf_l0 (QR.pieces s) (by omega) (fun x hx => by have := pm x hx; omega) _ 0 (Nat.zero_add _) (by simp), ?_⟩
  have cg := tw_congr (l := QR.pieces s) (p := isNum) (q := fun x => Num.digits x.toList) (fun x hx => num_digits (by
    unfold idK at ids
    have := List.all_eq_true.1 ids x hx
    simpa using this))
  rw [← cg.1, ← cg.2]
  have c1 := List.Sublist.length_le (List.takeWhile_sublist isNum (l := QR.pieces s))
  have c2 := List.Sublist.length_le (List.dropWhile_sublist isNum (l := QR.pieces s))
  have a := trimZ_len ((QR.pieces s).takeWhile isNum)
  have t := specTrim_ev (trimZ ((QR.pieces s).takeWhile isNum) ++ (QR.pieces s).dropWhile isNum) (by rw [List.length_append]; omega)
  rw [trim_two _ isNum (by unfold isNum; rw [zero_lit]; decide)] at t
  exact t
theorem segs_ids {s : ByteArray} (h : rubyK s = true) : idK (QR.rubySegs s) = true := by
  have ids := rubyK_ids h
  unfold idK at ids ⊢
  rw [List.all_eq_true] at ids ⊢
  exact fun x hx => ids x (QR.segs_mem hx)
theorem gemCompare_ev (a b : ByteArray) (ha : a.size ≤ 1500) (hb : b.size ≤ 1500) (fa : full a.toList) (fb : full b.toList) (ka : rubyK a = true) (kb : rubyK b = true) : Ev (fun k => spec_GemCompare.f k a b) (padL Seg.segC [48] (tl (QR.rubySegs a)) (tl (QR.rubySegs b))) := by
  obtain ⟨a1, m, a2, a3⟩ := gemSegs_ev a ha fa ka
  obtain ⟨b1, n, b2, b3⟩ := gemSegs_ev b hb fb kb
  obtain ⟨pa, za⟩ := QR.pieces_small a ha
  obtain ⟨pb, zb⟩ := QR.pieces_small b hb
  have la := QR.segs_len a
  have lb := QR.segs_len b
  have sp := specRuby_ev (QR.rubySegs a) (QR.rubySegs b) (by omega) (by omega) (fun x hx => by have := za x (QR.segs_mem hx); omega) (fun x hx => by have := zb x (QR.segs_mem hx); omega)
  rw [specRuby_same _ _ (segs_ids ka) (segs_ids kb)] at sp
  unfold spec_GemCompare.f
  exact a1.bind (a2.bind (a3.bind (b1.bind (b2.bind (b3.bind (sp.bind (Ev.now _)))))))
theorem rubyText_ev (a b : ByteArray) (ha : a.size ≤ 1500) (hb : b.size ≤ 1500) : Ev (fun k => impl_RubyCompareText.f k a b) (padL Seg.segC [48] (tl (QR.rubySegs a)) (tl (QR.rubySegs b)), true) := by
  have cs : Ev (fun k => semantic_RubyGemsVersion_CompareStr.f k a (QR.rubySegs a) b) (padL Seg.segC [48] (tl (QR.rubySegs a)) (tl (QR.rubySegs b)), none) := by
    unfold semantic_RubyGemsVersion_CompareStr.f
    refine (QR.rubyParse_ev b hb).bind ?_
    show Ev (fun k => (QR.semantic_RubyGemsVersion_compare.f a (QR.rubySegs a) b (QR.rubySegs b)).bind _) _
    rw [QR.rubyCompare_ev a b ha hb]
    exact ev_some (Ev.now _)
  unfold impl_RubyCompareText.f
  exact (QR.rubyParse_ev a ha).bind (cs.bind (ev_pos rfl (Ev.now _)))
end Go.Proofs.YtfgechefinijbaaDoor.QG
