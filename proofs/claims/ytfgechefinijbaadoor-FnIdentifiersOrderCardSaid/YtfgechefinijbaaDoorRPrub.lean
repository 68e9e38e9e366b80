/- What the reference answers over segments: known ones, numbers in digits, lists compared. -/
import Derived.Test.YtfgechefinijbaaDoorZRP
namespace Go.Proofs.YtfgechefinijbaaDoor.QR
open Go.RowKit Go.Proofs.YtfgechefinijbaaDoorW.PrintWords Go.Proofs.YtfgechefinijbaaDoorW.PrintLast Go.Proofs.YtfgechefinijbaaDoor.Pk Go.Proofs.YtfgechefinijbaaDoor.Giv Go.Proofs.YtfgechefinijbaaDoor.Ord
set_option linter.unusedVariables false

/-- A zero ahead of digits. -/
def zer (s : ByteArray) : Bool := decide (1 < s.size) && (decide (bt s 0 = 48) && Num.digits s.toList)
def rbK (l : List ByteArray) : Bool := l.all (fun s => !zer s) && idK l
theorem rbKnown_loop (l : List ByteArray) (hl : l.length < 4611686018427387904) (hs : ∀ s ∈ l, s.size < 4611686018427387904) (d : Nat) : ∀ i : Nat, i + d = l.length → Ev (fun k => spec_RubySegmentsKnown.l0 k l (i : Int)) ((l.drop i).all (fun s => !zer s) && idK l) := by
  induction d with
  | zero =>
    intro i hi
    refine Ev.step (fun k => by rw [spec_RubySegmentsKnown.l0]) ?_
    refine ev_neg (by omega) ?_
    rw [List.drop_of_length_le (by omega), List.all_nil, Bool.true_and]
    exact (idKnown_ev l hl hs).bind (Ev.now _)
  | succ d ih =>
    intro i hi
    have hlt : i < l.length := by omega
    have w := wr i (by omega)
    have r := rdOf_nat ByteArray.empty l i hlt
    have hz := hs _ (List.getElem_mem hlt)
    have nx := ih (i + 1) (by omega)
    rw [List.drop_eq_getElem_cons hlt, List.all_cons, Bool.and_assoc]
    generalize l[i]'hlt = s at *
    refine Ev.step (fun k => by rw [spec_RubySegmentsKnown.l0, w, r]) ?_
    refine ev_pos (by omega) (ev_pos (by omega) ?_)
    unfold zer
    by_cases h1 : (s.size : Int) > 1
    · rw [decide_eq_true (by omega), Bool.true_and]
      refine ev_pos h1 (ev_pos (by omega) ?_)
      by_cases c1 : bt s 0 = 48
      · rw [decide_eq_true c1, Bool.true_and]
        refine ev_pos c1 ((allDigits_ev s hz).bind ?_)
        cases Num.digits s.toList with
        | true => exact ev_pos rfl (Ev.now _)
        | false => exact ev_neg (by simp) nx
      · rw [decide_eq_false c1, Bool.false_and, Bool.not_false, Bool.true_and]
        exact ev_neg c1 nx
    · rw [decide_eq_false (by omega), Bool.false_and, Bool.not_false, Bool.true_and]
      exact ev_neg h1 nx
theorem rbKnown_ev (l : List ByteArray) (hl : l.length < 4611686018427387904) (hs : ∀ s ∈ l, s.size < 4611686018427387904) : Ev (fun k => spec_RubySegmentsKnown.f k l) (rbK l) := rbKnown_loop l hl hs l.length 0 (by omega)
theorem rbK_id {l : List ByteArray} (h : rbK l = true) : idK l = true := by
  unfold rbK at h
  rw [Bool.and_eq_true] at h
  exact h.2

theorem on_l1 (n : Nat) (a : ByteArray) (sa : List UInt8) (ha : Rpm.strip0 a.toList = a.toList) : ∀ b : ByteArray, b.size ≤ n → b.size < 4611686018427387904 → Ev (fun k => spec_orderNumbers.l1 k a b) (if cI a.size (Rpm.strip0 b.toList).length = 0 then cS a.toList (Rpm.strip0 b.toList) else cI a.size (Rpm.strip0 b.toList).length) := by
  have fin : ∀ b : ByteArray, Rpm.strip0 b.toList = b.toList → Ev (fun k => spec_orderNumbers.j3 k a b) (if cI a.size (Rpm.strip0 b.toList).length = 0 then cS a.toList (Rpm.strip0 b.toList) else cI a.size (Rpm.strip0 b.toList).length) := by
    intro b hb
    rw [hb, len_toList]
    refine Ev.step (fun k => by rw [spec_orderNumbers.j3]) ?_
    by_cases h : (a.size : Int) = (b.size : Int)
    · rw [if_pos (cI_zero.2 h)]
      exact ev_pos h (ev_some (Ev.now _))
    · rw [if_neg (fun e => h (cI_zero.1 e))]
      refine ev_neg h ?_
      unfold spec_orderInts.f cI
      by_cases h1 : (a.size : Int) < (b.size : Int)
      · rw [if_pos h1, if_pos h1]
        exact ev_some (Ev.now _)
      · rw [if_neg h1, if_pos (by omega), if_neg h1, if_pos (by omega)]
        exact ev_some (Ev.now _)
  induction n with
  | zero =>
    intro b hb _
    refine Ev.step (fun k => by rw [spec_orderNumbers.l1]) ?_
    refine ev_neg (by omega) (fin b ?_)
    have : b.toList = [] := List.length_eq_zero_iff.1 (by rw [len_toList]; omega)
    rw [this]
    rfl
  | succ n ih =>
    intro b hb hz
    refine Ev.step (fun k => by rw [spec_orderNumbers.l1]) ?_
    by_cases h : (b.size : Int) > 0
    · have h0 : 0 < b.size := by omega
      have et := tail_eq b h0
      refine ev_pos h (ev_pos (by omega) ?_)
      rw [bt_nat b 0 h0 |> (fun e => (e : bt b 0 = _))]
      by_cases c : ((b[0]'h0).toNat : Int) = 48
      · refine ev_pos c (ev_pos (by omega) ?_)
        have z := ih (b.extract 1 b.size) (by rw [ByteArray.size_extract]; omega) (by rw [ByteArray.size_extract]; omega)
        have e : Rpm.strip0 b.toList = Rpm.strip0 (b.extract 1 b.size).toList := by
          conv => lhs; rw [et]
          unfold Rpm.strip0
          rw [List.dropWhile_cons_of_pos (by simp; omega)]
        rw [e]
        exact z
      · refine ev_neg c (fin b ?_)
        conv => lhs; rw [et]
        unfold Rpm.strip0
        rw [List.dropWhile_cons_of_neg (by simp; omega)]
        exact et.symm
    · refine ev_neg h (fin b ?_)
      have : b.toList = [] := List.length_eq_zero_iff.1 (by rw [len_toList]; omega)
      rw [this]
      rfl
theorem on_l0 (n : Nat) (b : ByteArray) (hb : b.size < 4611686018427387904) : ∀ a : ByteArray, a.size ≤ n → a.size < 4611686018427387904 → Ev (fun k => spec_orderNumbers.l0 k a b) (Rpm.numC a.toList b.toList) := by
  have fin : ∀ a : ByteArray, Rpm.strip0 a.toList = a.toList → Ev (fun k => spec_orderNumbers.j1 k a b) (Rpm.numC a.toList b.toList) := by
    intro a ha
    refine Ev.step (fun k => by rw [spec_orderNumbers.j1]) ?_
    have := on_l1 b.size a [] ha b (Nat.le_refl _) hb
    unfold Rpm.numC
    rw [ha, len_toList]
    exact this
  induction n with
  | zero =>
    intro a ha _
    refine Ev.step (fun k => by rw [spec_orderNumbers.l0]) ?_
    refine ev_neg (by omega) (fin a ?_)
    have : a.toList = [] := List.length_eq_zero_iff.1 (by rw [len_toList]; omega)
    rw [this]
    rfl
  | succ n ih =>
    intro a ha hz
    refine Ev.step (fun k => by rw [spec_orderNumbers.l0]) ?_
    by_cases h : (a.size : Int) > 0
    · have h0 : 0 < a.size := by omega
      have et := tail_eq a h0
      refine ev_pos h (ev_pos (by omega) ?_)
      rw [bt_nat a 0 h0 |> (fun e => (e : bt a 0 = _))]
      by_cases c : ((a[0]'h0).toNat : Int) = 48
      · refine ev_pos c (ev_pos (by omega) ?_)
        have z := ih (a.extract 1 a.size) (by rw [ByteArray.size_extract]; omega) (by rw [ByteArray.size_extract]; omega)
        have e : Rpm.strip0 a.toList = Rpm.strip0 (a.extract 1 a.size).toList := by
          conv => lhs; rw [et]
          unfold Rpm.strip0
          rw [List.dropWhile_cons_of_pos (by simp; omega)]
        unfold Rpm.numC at z ⊢
        rw [e]
        exact z
      · refine ev_neg c (fin a ?_)
        conv => lhs; rw [et]
        unfold Rpm.strip0
        rw [List.dropWhile_cons_of_neg (by simp; omega)]
        exact et.symm
    · refine ev_neg h (fin a ?_)
      have : a.toList = [] := List.length_eq_zero_iff.1 (by rw [len_toList]; omega)
      rw [this]
      rfl
theorem orderNumbers_ev (a b : ByteArray) (ha : a.size < 4611686018427387904) (hb : b.size < 4611686018427387904) : Ev (fun k => spec_orderNumbers.f k a b) (Rpm.numC a.toList b.toList) := on_l0 a.size b hb a (Nat.le_refl _) ha
theorem rs_j4 (a b : List ByteArray) (i : Nat) (x y : ByteArray) (hx : x.size < 4611686018427387904) (hy : y.size < 4611686018427387904) (V : Int) (nx : Ev (fun k => spec_RubySegments.l0 k a b (wrap64 ((i : Int) + 1))) V) :
    Ev (fun k => spec_RubySegments.j3 k a b (i : Int) x y) (if Seg.segS x.toList y.toList = 0 then V else Seg.segS x.toList y.toList) := by
  have on := orderNumbers_ev x y hx hy
  refine Ev.step (fun k => by rw [spec_RubySegments.j3]) ?_
  refine (allDigits_ev x hx).bind ((allDigits_ev y hy).bind ?_)
  have tail : ∀ dx dy : Bool, Num.digits x.toList = dx → Num.digits y.toList = dy → Ev (fun k => spec_RubySegments.j4 k a b (i : Int) x y dx dy (dx && dy)) (if Seg.segS x.toList y.toList = 0 then V else Seg.segS x.toList y.toList) := by
    intro dx dy e1 e2
    refine Ev.step (fun k => by rw [spec_RubySegments.j4]) ?_
    unfold Seg.segS
    rw [e1, e2]
    cases dx with
    | true =>
      cases dy with
      | true =>
        refine ev_pos rfl (on.bind ?_)
        simp only [Bool.and_self, if_true]
        by_cases h : Rpm.numC x.toList y.toList = 0
        · rw [if_pos h]
          exact ev_pos h nx
        · rw [if_neg h]
          exact ev_neg h (Ev.now _)
      | false =>
        refine ev_neg (by simp) (ev_pos rfl (ev_neg (by decide) ?_))
        exact Ev.now _
    | false =>
      cases dy with
      | true =>
        refine ev_neg (by simp) (ev_neg (by simp) (ev_pos rfl (ev_neg (by decide) ?_)))
        exact Ev.now _
      | false =>
        refine ev_neg (by simp) (ev_neg (by simp) (ev_neg (by simp) (ev_some ?_)))
        simp only [Bool.and_self, Bool.false_eq_true, if_false]
        by_cases h : cS x.toList y.toList = 0
        · rw [if_pos h]
          exact ev_pos h nx
        · rw [if_neg h]
          exact ev_neg h (Ev.now _)
  cases hd : Num.digits x.toList with
  | true =>
    refine ev_pos rfl ?_
    have := tail true (Num.digits y.toList) hd rfl
    rw [Bool.true_and] at this
    exact this
  | false =>
    refine ev_neg (by simp) ?_
    have := tail false (Num.digits y.toList) hd rfl
    rw [Bool.false_and] at this
    exact this
theorem size_get {l : List ByteArray} (hs : ∀ s ∈ l, s.size < 4611686018427387904) (k : Nat) : (l.getD k ⟨#[48]⟩).size < 4611686018427387904 := by
  rw [List.getD_eq_getElem?_getD]
  cases hk : l[k]? with
  | none => exact Nat.lt_of_le_of_lt z48 (by decide)
  | some x => exact hs x (List.mem_of_getElem? hk)
theorem rs_loop (a b : List ByteArray) (ha : a.length < 4611686018427387904) (hb : b.length < 4611686018427387904) (hsa : ∀ s ∈ a, s.size < 4611686018427387904) (hsb : ∀ s ∈ b, s.size < 4611686018427387904) (n : Nat) (hn : n = max a.length b.length) (d : Nat) : ∀ i : Nat, i + d = n →
    Ev (fun k => spec_RubySegments.l0 k a b (i : Int)) (padN Seg.segS (⟨#[48]⟩ : ByteArray).toList (n - i) ((tl a).drop i) ((tl b).drop i)) := by
  have g : ∀ (l : List ByteArray) (i : Nat) (h : i < l.length), rdOf ByteArray.empty l (i : Int) = l.getD i ⟨#[48]⟩ := by
    intro l i h
    rw [rdOf_nat _ _ i h, List.getD_eq_getElem?_getD, List.getElem?_eq_getElem h]
    rfl
  have g0 : ∀ (l : List ByteArray) (i : Nat) (h : ¬ i < l.length), l.getD i ⟨#[48]⟩ = (⟨#[48]⟩ : ByteArray) := by
    intro l i h
    rw [List.getD_eq_getElem?_getD, List.getElem?_eq_none (by omega)]
    rfl
  induction d with
  | zero =>
    intro i hi
    refine Ev.step (fun k => by rw [spec_RubySegments.l0]) ?_
    rw [show n - i = 0 by omega]
    refine ev_neg (by omega) ?_
    rw [decide_eq_false (by omega)]
    refine Ev.step (fun k => by rw [spec_RubySegments.j1]) ?_
    exact ev_neg (by simp) (Ev.now _)
  | succ d ih =>
    intro i hi
    have w := wr i (by omega)
    have nx := ih (i + 1) (by omega)
    rw [← w] at nx
    have j3 := rs_j4 a b i _ _ (size_get hsa i) (size_get hsb i) _ nx
    rw [pad_step Seg.segS ⟨#[48]⟩ a b n i (by omega)]
    have j2 : Ev (fun k => spec_RubySegments.j2 k a b (i : Int) (a.getD i ⟨#[48]⟩) ⟨#[48]⟩) (if Seg.segS (a.getD i ⟨#[48]⟩).toList (b.getD i ⟨#[48]⟩).toList = 0 then padN Seg.segS (⟨#[48]⟩ : ByteArray).toList (n - (i + 1)) ((tl a).drop (i + 1)) ((tl b).drop (i + 1)) else Seg.segS (a.getD i ⟨#[48]⟩).toList (b.getD i ⟨#[48]⟩).toList) := by
      refine Ev.step (fun k => by rw [spec_RubySegments.j2]) ?_
      by_cases h : i < b.length
      · refine ev_pos (by omega) (ev_pos (by omega) ?_)
        rw [g b i h]
        exact j3
      · refine ev_neg (by omega) ?_
        rw [g0 b i h] at j3 ⊢
        exact j3
    have j1 : Ev (fun k => spec_RubySegments.j1 k a b (i : Int) true) (if Seg.segS (a.getD i ⟨#[48]⟩).toList (b.getD i ⟨#[48]⟩).toList = 0 then padN Seg.segS (⟨#[48]⟩ : ByteArray).toList (n - (i + 1)) ((tl a).drop (i + 1)) ((tl b).drop (i + 1)) else Seg.segS (a.getD i ⟨#[48]⟩).toList (b.getD i ⟨#[48]⟩).toList) := by
      refine Ev.step (fun k => by rw [spec_RubySegments.j1]) ?_
      refine ev_pos rfl ?_
      by_cases h : i < a.length
      · refine ev_pos (by omega) (ev_pos (by omega) ?_)
        rw [g a i h]
        exact j2
      · refine ev_neg (by omega) ?_
        rw [g0 a i h] at j2 ⊢
        exact j2
    refine Ev.step (fun k => by rw [spec_RubySegments.l0]) ?_
    by_cases h : i < a.length
    · exact ev_pos (by omega) j1
    · refine ev_neg (by omega) ?_
      rw [decide_eq_true (by omega)]
      exact j1
theorem specRuby_ev (a b : List ByteArray) (ha : a.length < 4611686018427387904) (hb : b.length < 4611686018427387904) (hsa : ∀ s ∈ a, s.size < 4611686018427387904) (hsb : ∀ s ∈ b, s.size < 4611686018427387904) : Ev (fun k => spec_RubySegments.f k a b) (padL Seg.segS [48] (tl a) (tl b)) := by
  have := rs_loop a b ha hb hsa hsb _ rfl _ 0 (Nat.zero_add _)
  unfold padL
  rw [tl_len, tl_len, ← zero_lit]
  exact this
/-- Over texts without signs the program's order is the reference's. -/
theorem specRuby_same (a b : List ByteArray) (ha : idK a = true) (hb : idK b = true) : padL Seg.segS [48] (tl a) (tl b) = padL Seg.segC [48] (tl a) (tl b) := by
  unfold padL
  refine Seg.padN_congr (p := fun x => Seg.signed x = false) (by decide) (fun x y hx hy => Seg.segS_eq hx hy) _ _ _ (idK_tl ha) (idK_tl hb)
theorem fit_of {l : List ByteArray} (h : shortB l = true) : fit l = true := by
  unfold fit
  rw [Bool.and_eq_true, List.all_eq_true]
  refine ⟨decide_eq_true (by have := short_len h; omega), fun s hs => decide_eq_true (by have := short_sizes h s hs; omega)⟩
theorem small_of {l : List ByteArray} (h : shortB l = true) : l.length < 4611686018427387904 ∧ ∀ s ∈ l, s.size < 4611686018427387904 :=
  ⟨by have := short_len h; omega, fun s hs => by have := short_sizes h s hs; omega⟩
theorem implRuby {a b : List ByteArray} (ha : fit a = true) (hb : fit b = true) : impl_RubySegments.f a b = some (padL Seg.segC [48] (tl a) (tl b)) := by
  unfold impl_RubySegments.f semantic_ZZRubySegments.f Giv.semantic_compareRubyGemsComponents.f
  rw [if_pos ⟨ha, hb⟩]
  rfl
theorem rubyAwake : laws_rubyAwake.f = some true := by
  unfold laws_rubyAwake.f
  rw [implRuby (by decide) (by decide)]
  have e : padL Seg.segC [48] (tl [(⟨#[49]⟩ : ByteArray)]) (tl [(⟨#[50]⟩ : ByteArray)]) = -1 := by
    have l1 : tl [(⟨#[49]⟩ : ByteArray)] = [[49]] := by
      show [(⟨#[49]⟩ : ByteArray).toList] = [[49]]
      rw [lit_toList [49] |> (fun e => (e : (⟨#[49]⟩ : ByteArray).toList = [49]))]
    have l2 : tl [(⟨#[50]⟩ : ByteArray)] = [[50]] := by
      show [(⟨#[50]⟩ : ByteArray).toList] = [[50]]
      rw [lit_toList [50] |> (fun e => (e : (⟨#[50]⟩ : ByteArray).toList = [50]))]
    rw [l1, l2]
    decide
  rw [e]
  rfl
end Go.Proofs.YtfgechefinijbaaDoor.QR
