/- The statement FnSplitInclusive: a text is cut at some characters, which are told, and the pieces joined are the text, for every pair of texts.
   No condition beyond those that the statement itself states. -/
import Derived.Test.YtojabknjniihmaaSPshort
import Derived.Test.YtojabknjniihmaaSPtexts
import Derived.Test.YtojabknjniihmaaSPascii
namespace Go.Proofs.Ytojabknjniihmaa.QS
open Go.RowKit Go.Proofs.YtojabknjniihmaaW.PrintWords Go.Proofs.YtojabknjniihmaaW.PrintLast Go.Proofs.Ytojabknjniihmaa.Pk Go.Proofs.Ytojabknjniihmaa.Giv
set_option linter.unusedVariables false

def mk (l : List UInt8) : ByteArray := ⟨l.toArray⟩
theorem mk_toList (l : List UInt8) : (mk l).toList = l := by unfold mk; rw [toList_eq']
theorem mk_eq {s : ByteArray} {l : List UInt8} (h : s.toList = l) : s = mk l := eq_of_toList (h.trans (mk_toList l).symm)

/-- The pieces of 'cur' and what follows. -/
def go (p : UInt8 → Bool) : List UInt8 → List UInt8 → List (List UInt8)
  | cur, [] => [cur]
  | cur, c :: r => if p c then cur :: [c] :: go p [] r else go p (cur ++ [c]) r
theorem go_no (p : UInt8 → Bool) : ∀ (l cur : List UInt8), l.any p = false → go p cur l = [cur ++ l]
  | [], cur, _ => by simp [go]
  | c :: r, cur, h => by
    rw [List.any_cons, Bool.or_eq_false_iff] at h
    rw [go, h.1, if_neg (by simp), go_no p r _ h.2]
    simp
theorem go_at (p : UInt8 → Bool) : ∀ (l cur : List UInt8) (i : Nat) (hi : i < l.length), (l.take i).any p = false → p (l[i]'hi) = true → go p cur l = (cur ++ l.take i) :: [l[i]'hi] :: go p [] (l.drop (i + 1))
  | [], cur, i, hi, _, _ => by simp at hi
  | c :: r, cur, 0, hi, _, hy => by
    have hy' : p c = true := hy
    rw [go, hy', if_pos rfl]
    simp
  | c :: r, cur, i + 1, hi, hn, hy => by
    rw [List.take_succ_cons, List.any_cons, Bool.or_eq_false_iff] at hn
    have hi' : i < r.length := by simpa using hi
    rw [go, hn.1, if_neg (by simp), go_at p r _ i hi' hn.2 hy]
    simp
theorem go_join (p : UInt8 → Bool) : ∀ (l cur : List UInt8), (go p cur l).flatten = cur ++ l
  | [], cur => by simp [go]
  | c :: r, cur => by
    rw [go]
    split
    · simp [go_join p r]
    · rw [go_join p r]
      simp
theorem go_len (p : UInt8 → Bool) : ∀ (l cur : List UInt8), (go p cur l).length ≤ 2 * l.length + 1
  | [], cur => by simp [go]
  | c :: r, cur => by
    rw [go]
    split
    · have := go_len p r []
      simp only [List.length_cons]
      omega
    · have := go_len p r (cur ++ [c])
      simp only [List.length_cons]
      omega

theorem has_loop (set : ByteArray) (c : UInt8) (hs : set.size < 4611686018427387904) (d : Nat) : ∀ i : Nat, i + d = set.size → (set.toList.take i).contains c = false → Ev (fun k => spec_mavenHas.l0 k set (c.toNat : Int) (i : Int)) (set.toList.contains c) := by
  induction d with
  | zero =>
    intro i hi hno
    refine Ev.step (fun k => by rw [spec_mavenHas.l0]) ?_
    refine ev_neg (by omega) ?_
    rw [List.take_of_length_le (by rw [len_toList]; omega)] at hno
    rw [hno]
    exact Ev.now _
  | succ d ih =>
    intro i hi hno
    have hlt : i < set.size := by omega
    have b := bt_nat set i hlt
    have w := wr i (by omega)
    refine Ev.step (fun k => by rw [spec_mavenHas.l0, b, w]) ?_
    refine ev_pos (by omega) (ev_pos (by omega) ?_)
    by_cases h : (set[i]'hlt) = c
    · refine ev_pos (by rw [h]) ?_
      have : set.toList.contains c = true := by
        rw [List.contains_iff_mem, ← h, ← getElem_toList set i hlt]
        exact List.getElem_mem _
      rw [this]
      exact Ev.now _
    · refine ev_neg (fun e => h (UInt8.toNat_inj.1 (by omega))) ?_
      refine ih (i + 1) (by omega) ?_
      rw [take_next' set i hlt]
      rw [← Bool.not_eq_true, List.contains_iff_mem] at hno ⊢
      rw [List.mem_append]
      rintro (h1 | h1)
      · exact hno h1
      · exact h (List.mem_singleton.1 h1).symm
theorem has_ev (set : ByteArray) (c : UInt8) (hs : set.size < 4611686018427387904) : Ev (fun k => spec_mavenHas.f k set (c.toNat : Int)) (inB set c) := by
  have h := has_loop set c hs set.size 0 (by omega) (by simp)
  have e : set.toList.contains c = inB set c := by
    rw [Bool.eq_iff_iff, inB_iff, List.contains_iff_mem]
  rw [e] at h
  exact h

theorem spec_loop (s set : ByteArray) (hs : s.size ≤ 1500) (hz : set.size ≤ 1500) (d : Nat) : ∀ (i from_ : Nat) (acc : List ByteArray), i + d = s.size → from_ ≤ i → acc.length ≤ 2 * i →
    Ev (fun k => spec_SplitInclusive.l0 k s set acc (from_ : Int) (i : Int)) (acc ++ (go (inB set) ((s.toList.drop from_).take (i - from_)) (s.toList.drop i)).map mk) := by
  induction d with
  | zero =>
    intro i from_ acc hi hf ha
    refine Ev.step (fun k => by rw [spec_SplitInclusive.l0]) ?_
    refine ev_neg (by omega) (ev_pos (by omega) (ev_pos (by omega) (ev_pos (by omega) ?_)))
    have e : s.extract ((from_ : Int)).toNat s.size = mk ((s.toList.drop from_).take (i - from_)) := by
      rw [Int.toNat_natCast]
      refine mk_eq ?_
      rw [ext_toList, show s.size = i by omega]
    have hd0 : s.toList.drop i = [] := List.drop_of_length_le (by rw [len_toList]; omega)
    rw [hd0, go, e]
    exact Ev.now _
  | succ d ih =>
    intro i from_ acc hi hf ha
    have hlt : i < s.size := by omega
    have b := bt_nat s i hlt
    have w := wr i (by omega)
    refine Ev.step (fun k => by rw [spec_SplitInclusive.l0, b, w]) ?_
    refine ev_pos (by omega) (ev_pos (by omega) ?_)
    refine (has_ev set (s[i]'hlt) (by omega)).bind ?_
    rw [drop_at s i hlt, go]
    cases hb : inB set (s[i]'hlt) with
    | true =>
      refine ev_pos rfl (ev_pos (by omega) (ev_pos (by omega) (ev_pos (by omega) (ev_pos (by omega) (ev_pos (by omega) ?_)))))
      refine ev_some ?_
      refine ev_pos (by simp; omega) ?_
      have z := ih (i + 1) (i + 1) (acc ++ [s.extract ((from_ : Int)).toNat ((i : Int)).toNat, s.extract ((i : Int)).toNat (((i + 1 : Nat) : Int)).toNat]) (by omega) (by omega) (by simp; omega)
      rw [if_pos rfl]
      have e1 : s.extract ((from_ : Int)).toNat ((i : Int)).toNat = mk ((s.toList.drop from_).take (i - from_)) := by
        rw [Int.toNat_natCast, Int.toNat_natCast]
        exact mk_eq (ext_toList _ _ _)
      have e2 : s.extract ((i : Int)).toNat (((i + 1 : Nat) : Int)).toNat = mk [s[i]'hlt] := by
        rw [Int.toNat_natCast, Int.toNat_natCast]
        refine mk_eq ?_
        rw [ext_toList, drop_at s i hlt, show i + 1 - i = 1 by omega]
        rfl
      rw [e1, e2] at z ⊢
      simpa using z
    | false =>
      refine ev_neg (by simp) ?_
      have z := ih (i + 1) from_ acc (by omega) (by omega) (by omega)
      rw [if_neg (by simp)]
      have e : (s.toList.drop from_).take (i + 1 - from_) = (s.toList.drop from_).take (i - from_) ++ [s[i]'hlt] := by
        rw [show i + 1 - from_ = (i - from_) + 1 by omega, List.take_succ_eq_append_getElem (by rw [List.length_drop, len_toList]; omega)]
        congr 2
        rw [List.getElem_drop]
        have : s.toList[from_ + (i - from_)]? = s.toList[i]? := by rw [show from_ + (i - from_) = i by omega]
        have h1 : from_ + (i - from_) < s.toList.length := by rw [len_toList]; omega
        have h2 : i < s.toList.length := by rw [len_toList]; omega
        rw [List.getElem?_eq_getElem h1, List.getElem?_eq_getElem h2] at this
        rw [Option.some.inj this, getElem_toList s i hlt]
      rw [e] at z
      exact z
theorem spec_ev (s set : ByteArray) (hs : s.size ≤ 1500) (hz : set.size ≤ 1500) : Ev (fun k => spec_SplitInclusive.f k s set) ((go (inB set) [] s.toList).map mk) := by
  have := spec_loop s set hs hz s.size 0 0 [] (by omega) (by omega) (by simp)
  unfold spec_SplitInclusive.f
  simpa using this

theorem ascB_drop {s : ByteArray} (h : ascB s = true) (i : Nat) : ascB (s.extract i s.size) = true := by
  unfold ascB at h ⊢
  rw [ext_all]
  rw [List.all_eq_true] at h ⊢
  exact fun x hx => h x (List.mem_of_mem_drop hx)
theorem impl_loop (set : ByteArray) (hz : set.size ≤ 1500) (hc : ascB set = true) (n : Nat) : ∀ (s : ByteArray) (acc : List ByteArray), s.size ≤ n → n ≤ 1500 → acc.length + 2 * s.size ≤ 3000 → ascB s = true →
    Ev (fun k => semantic_splitCharsInclusive.l0 k s set acc) (acc ++ (go (inB set) [] s.toList).map mk) := by
  induction n with
  | zero =>
    intro s acc hs hn ha hb
    refine Ev.step (fun k => by rw [semantic_splitCharsInclusive.l0]) ?_
    have hf : Giv.semantic_zzIndexAny.f s set = some (placeOf (inB set) s.toList) := by
      unfold Giv.semantic_zzIndexAny.f
      rw [if_pos ⟨hb, hc, by omega, by omega⟩]
    rw [hf]
    refine ev_some ?_
    rcases placeOf_range (inB set) s.toList with ⟨e, hno⟩ | ⟨i, e, hi, _⟩
    · rw [e]
      refine ev_pos (by omega) (ev_pos (by omega) ?_)
      rw [go_no _ _ _ hno, mk_eq (s := s) rfl]
      simp only [List.nil_append, List.map_cons, List.map_nil, mk_toList]
      exact Ev.now _
    · rw [len_toList] at hi
      omega
  | succ n ih =>
    intro s acc hs hn ha hb
    refine Ev.step (fun k => by rw [semantic_splitCharsInclusive.l0]) ?_
    have hf : Giv.semantic_zzIndexAny.f s set = some (placeOf (inB set) s.toList) := by
      unfold Giv.semantic_zzIndexAny.f
      rw [if_pos ⟨hb, hc, by omega, by omega⟩]
    rw [hf]
    refine ev_some ?_
    rcases placeOf_range (inB set) s.toList with ⟨e, hno⟩ | ⟨i, e, hi, hno, hi', hy⟩
    · rw [e]
      refine ev_pos (by omega) (ev_pos (by omega) ?_)
      rw [go_no _ _ _ hno, mk_eq (s := s) rfl]
      simp only [List.nil_append, List.map_cons, List.map_nil, mk_toList]
      exact Ev.now _
    · have hlt : i < s.size := by rw [← len_toList]; exact hi
      have w := wr i (by omega)
      rw [e, w]
      refine ev_neg (by omega) (ev_pos (by omega) (ev_pos (by omega) (ev_pos (by omega) (ev_pos (by omega) ?_))))
      refine ev_some ?_
      refine ev_pos (by simp; omega) (ev_pos (by omega) ?_)
      have sz : (s.extract (((i + 1 : Nat) : Int)).toNat s.size).size = s.size - (i + 1) := by rw [Int.toNat_natCast, ByteArray.size_extract]; omega
      have z := ih (s.extract (((i + 1 : Nat) : Int)).toNat s.size) (acc ++ [s.extract 0 ((i : Int)).toNat, s.extract ((i : Int)).toNat (((i + 1 : Nat) : Int)).toNat]) (by rw [sz]; omega) (by omega) (by rw [sz]; simp; omega) (ascB_drop hb _)
      have e1 : s.extract 0 ((i : Int)).toNat = mk (s.toList.take i) := by
        rw [Int.toNat_natCast]
        exact mk_eq (ext_head _ _)
      have e2 : s.extract ((i : Int)).toNat (((i + 1 : Nat) : Int)).toNat = mk [s.toList[i]'hi'] := by
        rw [Int.toNat_natCast, Int.toNat_natCast]
        refine mk_eq ?_
        rw [ext_toList, drop_at s i hlt, show i + 1 - i = 1 by omega, getElem_toList s i hlt]
        rfl
      rw [go_at (inB set) s.toList [] i hi' hno hy]
      rw [e1, e2] at z ⊢
      rw [Int.toNat_natCast] at z ⊢
      rw [ext_all] at z
      simpa using z

/-- The pieces, joined one by one. -/
theorem join_loop (s set : ByteArray) (ps : List ByteArray) (hs : s.size ≤ 1500) (hz : set.size ≤ 1500) (hp : ps = (go (inB set) [] s.toList).map mk) (d : Nat) : ∀ i : Nat, i + d = ps.length → ∀ x : ByteArray, x.toList ++ ((ps.drop i).map ByteArray.toList).flatten = s.toList →
    Ev (fun k => laws_FnSplitInclusive.l0 k s set ps x ps (ps.length : Int) (i : Int)) true := by
  have hl : ps.length ≤ 3001 := by
    rw [hp, List.length_map]
    have := go_len (inB set) s.toList []
    rw [len_toList] at this
    omega
  induction d with
  | zero =>
    intro i hi x hx
    refine Ev.step (fun k => by rw [laws_FnSplitInclusive.l0]) ?_
    refine ev_neg (by omega) ?_
    rw [List.drop_of_length_le (by omega)] at hx
    refine (spec_ev s set hs hz).bind ?_
    rw [← hp]
    refine (texts_ev ps ps (by omega)).bind ?_
    rw [decide_eq_true rfl]
    refine ev_pos rfl ?_
    have : x.toList = s.toList := by simpa using hx
    rw [this]
    exact ⟨0, fun _ _ => by simp⟩
  | succ d ih =>
    intro i hi x hx
    have hlt : i < ps.length := by omega
    have r := rdOf_nat ByteArray.empty ps i hlt
    have w := wr i (by omega)
    rw [List.drop_eq_getElem_cons hlt, List.map_cons, List.flatten_cons] at hx
    refine Ev.step (fun k => by rw [laws_FnSplitInclusive.l0, r, w]) ?_
    have hlen := congrArg List.length hx
    simp only [List.length_append, len_toList] at hlen
    refine ev_pos (by omega) (ev_pos (by omega) (ev_pos (by omega) (ev_pos (by omega) ?_)))
    refine ih (i + 1) (by omega) _ ?_
    rw [append_toList, List.append_assoc]
    exact hx
end Go.Proofs.Ytojabknjniihmaa.QS
namespace Go.Proofs.Ytojabknjniihmaa.Pure
open Go.RowKit Go.Proofs.Ytojabknjniihmaa.QS Go.Proofs.YtojabknjniihmaaW.PrintWords Go.Proofs.YtojabknjniihmaaW.PrintLast Go.Proofs.Ytojabknjniihmaa.Pk Go.Proofs.Ytojabknjniihmaa.Giv
theorem FnSplitInclusive : laws_FnSplitInclusive.Pure := by
  intro s set _ _
  suffices h : Ev (fun k => laws_FnSplitInclusive.f k s set) true from h.rounds
  have out : Ev (fun k => laws_FnSplitInclusive.j0 k s set true) true := by
    refine Ev.step (fun k => by rw [laws_FnSplitInclusive.j0]) ?_
    exact ev_pos rfl (Ev.now _)
  have out1 : Ev (fun k => laws_FnSplitInclusive.j1 k s set true) true := by
    refine Ev.step (fun k => by rw [laws_FnSplitInclusive.j1]) ?_
    exact ev_pos rfl (Ev.now _)
  unfold laws_FnSplitInclusive.f
  by_cases hz : (s.size : Int) > 2147483647
  · exact ev_pos hz out
  · refine ev_neg hz ?_
    cases hd : decide ((set.size : Int) > 2147483647) with
    | true => exact out
    | false =>
      refine Ev.step (fun k => by rw [laws_FnSplitInclusive.j0]) ?_
      refine ev_neg (by simp) ?_
      refine (short_ev [s, set] (by simp)).bind ?_
      cases hb : shortB [s, set] with
      | false => exact ev_neg (by simp) out1
      | true =>
        have h1 := short_sizes hb s (by simp)
        have h2 := short_sizes hb set (by simp)
        refine ev_pos rfl ?_
        refine (ascii_ev s (by omega)).bind ?_
        cases ha : ascB s with
        | false => exact ev_neg (by simp) out1
        | true =>
          refine ev_pos rfl ?_
          refine (ascii_ev set (by omega)).bind ?_
          cases hc : ascB set with
          | false => exact out1
          | true =>
            refine Ev.step (fun k => by rw [laws_FnSplitInclusive.j1]) ?_
            refine ev_neg (by simp) ?_
            have im : Ev (fun k => impl_SplitInclusive.f k s set) ((go (inB set) [] s.toList).map mk) := by
              have e := impl_loop set h2 hc 1500 s [] h1 (by omega) (by simp; omega) ha
              refine Ev.bind (f := fun _ t115 => if ([] : List ByteArray).length + t115.length < 8796093022208 then (some (([] : List ByteArray) ++ t115)) else (none)) (Ev.bind (f := fun _ t112 => some t112) e (Ev.now _)) ?_
              have hl := go_len (inB set) s.toList []
              rw [len_toList] at hl
              refine ev_pos (by simp; omega) ?_
              simpa using Ev.now _
            refine im.bind ?_
            refine join_loop s set _ h1 h2 rfl ((go (inB set) [] s.toList).map mk).length 0 (by rw [Nat.zero_add]) ⟨#[]⟩ ?_
            have hj := go_join (inB set) s.toList []
            have hm : ((go (inB set) [] s.toList).map mk).map ByteArray.toList = go (inB set) [] s.toList := by
              rw [List.map_map]
              conv => rhs; rw [← List.map_id (go (inB set) [] s.toList)]
              congr 1
              funext l
              exact mk_toList l
            rw [List.drop_zero, hm, hj]
            rw [toList_eq']
            rfl
end Go.Proofs.Ytojabknjniihmaa.Pure
