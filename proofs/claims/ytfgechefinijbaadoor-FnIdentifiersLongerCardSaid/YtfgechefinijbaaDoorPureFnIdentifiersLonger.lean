/- The statement FnIdentifiersLonger: more identifiers behind make a list greater, and a number is smaller than another identifier, for all lists and texts.
   No condition beyond those that the statement itself states (its card ties the listed variables to the program's text). -/
import Derived.Test.YtfgechefinijbaaDoorZRP
import Derived.Test.YtfgechefinijbaaDoorRPplain
import Derived.Test.YtfgechefinijbaaDoorRPdigits
namespace Go.Proofs.YtfgechefinijbaaDoor.Pure
open Go.RowKit Go.Proofs.YtfgechefinijbaaDoor.QR Go.Proofs.YtfgechefinijbaaDoorW.PrintWords Go.Proofs.YtfgechefinijbaaDoorW.PrintLast Go.Proofs.YtfgechefinijbaaDoor.Pk Go.Proofs.YtfgechefinijbaaDoor.Giv Go.Proofs.YtfgechefinijbaaDoor.Ord
theorem il_pre {α : Type} {c : α → α → Int} (h : Cmp c) (u v : List α) : ∀ P : List α, lexL c (P ++ u) (P ++ v) = lexL c u v
  | [] => rfl
  | x :: P => by
    have := il_pre h u v P
    simp only [List.cons_append, lexL, h.self x, if_true]
    exact this
theorem il_more (a : List ByteArray) (x : ByteArray) : lexL Seg.idC (tl a) (tl (a ++ [x])) = -1 := by
  have := il_pre Seg.idC_cmp [] [x.toList] (tl a)
  rw [List.append_nil] at this
  have e : tl (a ++ [x]) = tl a ++ [x.toList] := by simp [tl]
  rw [e, this]
  rfl
theorem il_last (a : List ByteArray) (x y : ByteArray) : lexL Seg.idC (tl (a ++ [x])) (tl (a ++ [y])) = Seg.idC x.toList y.toList := by
  have := il_pre Seg.idC_cmp [x.toList] [y.toList] (tl a)
  have e : ∀ z : ByteArray, tl (a ++ [z]) = tl a ++ [z.toList] := by intro z; simp [tl]
  rw [e, e, this]
  simp only [lexL]
  by_cases h : Seg.idC x.toList y.toList = 0
  · rw [if_pos h, h]
  · rw [if_neg h]
theorem implIds {a b : List ByteArray} (ha : fit a = true) (hb : fit b = true) : impl_Identifiers.f a b = some (lexL Seg.idC (tl a) (tl b)) := by
  unfold impl_Identifiers.f semantic_ZZIdentifiers.f Giv.semantic_compareSemverBuildComponents.f
  rw [if_pos ⟨ha, hb⟩]
  rfl
theorem il_dig {l : List UInt8} (h : (l.all Rpm.dig && !l.isEmpty) = true) : Num.parse l = some (Num.dec l : Int) := by
  rw [Bool.and_eq_true] at h
  have s : Seg.signed l = false := by
    unfold Seg.signed
    cases l with
    | nil => rfl
    | cons c r =>
      rw [List.all_cons, Bool.and_eq_true] at h
      have hd : 48 ≤ c.toNat ∧ c.toNat ≤ 57 := by simpa [Rpm.dig] using h.1.1
      simp only
      rw [decide_eq_false (by omega), decide_eq_false (by omega)]
      rfl
  rw [Seg.parse_plain s]
  unfold Num.digits
  rw [h.1, h.2]
  rfl
theorem il_word {l : List UInt8} (h : plainB [] l = true) (hd : (l.all Rpm.dig && !l.isEmpty) = false) : Num.parse l = none := by
  unfold plainB at h
  rw [Bool.and_eq_true] at h
  have s : Seg.signed l = false := by
    unfold Seg.signed
    cases l with
    | nil => rfl
    | cons c r =>
      have hc := h.1
      rw [List.all_cons, Bool.and_eq_true] at hc
      have hc1 := hc.1
      simp only [alnum, Rpm.let_, Rpm.dig, List.contains_nil, Bool.or_false, Bool.or_eq_true, decide_eq_true_eq] at hc1
      simp only
      rw [decide_eq_false (by omega), decide_eq_false (by omega)]
      rfl
  rw [Seg.parse_plain s]
  unfold Num.digits
  rw [Bool.and_comm, hd]
  rfl
theorem fit_more {l : List ByteArray} {x : ByteArray} (h : shortB l = true) (hx : x.size ≤ 1500) : fit (l ++ [x]) = true := by
  unfold fit
  rw [Bool.and_eq_true, List.all_eq_true]
  refine ⟨decide_eq_true (by have := short_len h; rw [List.length_append, List.length_singleton]; omega), fun s hs => decide_eq_true ?_⟩
  rcases List.mem_append.1 hs with hs | hs
  · have := short_sizes h s hs
    omega
  · rw [List.mem_singleton.1 hs]
    omega
theorem FnIdentifiersLonger : ∀ (l0 : List ByteArray) (a1 : ByteArray) (a2 : ByteArray) (a3 : ByteArray), l0.length ≤ 9223372036854775807 → (∀ s ∈ l0, s.size ≤ 9223372036854775807) → a1.size ≤ 140737488351232 → a2.size ≤ 140737488351232 → a3.size ≤ 140737488351232 → ∃ k, laws_FnIdentifiersLonger.f k l0 a1 a2 a3 = some true := by
  intro a x n word _ _ hx hn hw
  suffices h : Ev (fun k => laws_FnIdentifiersLonger.f k a x n word) true from h.rounds
  have out : Ev (fun k => laws_FnIdentifiersLonger.j0 k a x n word true) true := by
    refine Ev.step (fun k => by rw [laws_FnIdentifiersLonger.j0]) ?_
    exact ev_pos rfl (Ev.now _)
  have out1 : Ev (fun k => laws_FnIdentifiersLonger.j1 k a x n word true) true := by
    refine Ev.step (fun k => by rw [laws_FnIdentifiersLonger.j1]) ?_
    exact ev_pos rfl (Ev.now _)
  unfold laws_FnIdentifiersLonger.f
  obtain ⟨fa, ea, ha⟩ := fits_ev a
  refine ea.bind ?_
  cases fa with
  | false => exact ev_neg (by simp) out
  | true =>
  have la := ha rfl
  refine ev_pos rfl ?_
  by_cases z1 : (x.size : Int) > 2147483647
  · exact ev_pos z1 out
  refine ev_neg z1 ?_
  by_cases z2 : (n.size : Int) > 2147483647
  · exact ev_pos z2 out
  refine ev_neg z2 ?_
  cases hz : decide ((word.size : Int) > 2147483647) with
  | true => exact out
  | false =>
  refine Ev.step (fun k => by rw [laws_FnIdentifiersLonger.j0]) ?_
  refine ev_neg (by simp) ((short_ev a (by omega)).bind ?_)
  cases sa : shortB a with
  | false => exact ev_neg (by simp) out1
  | true =>
  refine ev_pos rfl ((short_ev [x, n, word] (by simp)).bind ?_)
  cases sx : shortB [x, n, word] with
  | false => exact ev_neg (by simp) out1
  | true =>
  have h1 := short_sizes sx x (by simp)
  have h2 := short_sizes sx n (by simp)
  have h3 := short_sizes sx word (by simp)
  have dn := digits_ev n.toList (by rw [len_toList]; omega)
  have dw := digits_ev word.toList (by rw [len_toList]; omega)
  have pw := plain_ev [] word.toList (by simp) (by rw [len_toList]; omega)
  rw [← bs_of] at dn dw pw
  refine ev_pos rfl (dn.bind ?_)
  cases en : (n.toList.all Rpm.dig && !n.toList.isEmpty) with
  | false => exact ev_neg (by simp) out1
  | true =>
  refine ev_pos rfl (pw.bind ?_)
  cases ew : plainB [] word.toList with
  | false => exact ev_neg (by simp) out1
  | true =>
  refine ev_pos rfl (dw.bind ?_)
  cases ed : (word.toList.all Rpm.dig && !word.toList.isEmpty) with
  | true => exact ev_pos rfl out1
  | false =>
  refine ev_neg (by simp) ((idKnown_ev a (small_of sa).1 (small_of sa).2).bind ?_)
  cases idK a with
  | false => exact ev_neg (by simp) out1
  | true =>
  refine ev_pos rfl ((idKnown_ev [x] (by simp) (fun s hs => by rw [List.mem_singleton.1 hs]; omega)).bind ?_)
  cases idK [x] with
  | false => exact out1
  | true =>
  refine Ev.step (fun k => by rw [laws_FnIdentifiersLonger.j1]) ?_
  have lim : a.length < 8796093022208 := by omega
  have nil_a : ([] : List ByteArray) ++ a = a := rfl
  refine ev_neg (by simp) ?_
  rw [nil_a]
  refine ev_pos (by simpa using lim) (ev_some (ev_pos lim (ev_some (ev_pos lim (ev_some (ev_some (ev_pos lim (ev_some ?_))))))))
  rw [implIds (fit_of sa) (fit_more sa h1), implIds (fit_more sa h2) (fit_more sa h3), implIds (fit_more sa h3) (fit_more sa h2), il_more, il_last, il_last, Seg.idC_nt (il_dig en) (il_word ew ed), Seg.idC_tn (il_word ew ed) (il_dig en)]
  exact ev_some (ev_pos rfl (ev_some (ev_pos rfl (ev_some (Ev.now _)))))
end Go.Proofs.YtfgechefinijbaaDoor.Pure
