/- Contract by hand: compareDebianVersions, where both texts' bytes are below 128 and none is 0. -/
import Derived.Test.YtchnlfkdgajodaaDoorMGivDi
import Derived.Test.YtchnlfkdgajodaaDoorGivDs
import Derived.Test.YtchnlfkdgajodaaDoorQFx1
import Derived.Test.YtchnlfkdgajodaaDoorQWx1
namespace Go.Proofs.YtchnlfkdgajodaaDoor.Giv
open Go.RowKit Go.Proofs.YtchnlfkdgajodaaDoorW.PrintWords Go.Proofs.YtchnlfkdgajodaaDoorW.PrintLast Go.Proofs.YtchnlfkdgajodaaDoor.Pk Go.Proofs.YtchnlfkdgajodaaDoor.Ord Go.Proofs.YtchnlfkdgajodaaDoor.QM
set_option linter.unusedVariables false
set_option linter.unusedSimpArgs false

/-- Bytes below 128, none 0, not too many. -/
def okB (l : List UInt8) : Bool := decide (l.length ≤ 40000) && l.all (fun c => decide (c.toNat < 128 ∧ c.toNat ≠ 0))
theorem okB_len {l : List UInt8} (h : okB l = true) : l.length ≤ 40000 := by
  unfold okB at h
  rw [Bool.and_eq_true] at h
  exact of_decide_eq_true h.1
theorem okB_mem {l : List UInt8} (h : okB l = true) : ∀ c ∈ l, c.toNat < 128 ∧ c.toNat ≠ 0 := by
  unfold okB at h
  rw [Bool.and_eq_true, List.all_eq_true] at h
  exact fun c hc => of_decide_eq_true (h.2 c hc)
theorem okB_sub {l m : List UInt8} (h : okB l = true) (hs : m.Sublist l) : okB m = true := by
  unfold okB
  rw [Bool.and_eq_true, List.all_eq_true]
  exact ⟨decide_eq_true (Nat.le_trans hs.length_le (okB_len h)), fun c hc => decide_eq_true (okB_mem h c (hs.subset hc))⟩
theorem nd_sub (l : List UInt8) : (Deb.nd l).Sublist l := List.takeWhile_sublist _
theorem nr_sub (l : List UInt8) : (Deb.nr l).Sublist l := List.dropWhile_sublist _
theorem rest_sub (l : List UInt8) : (Deb.rest l).Sublist l := (List.dropWhile_sublist _).trans (nr_sub l)
theorem asc_bs {l : List UInt8} (h : okB l = true) : asc (bs l) := by
  intro i hi
  have m := List.getElem_mem (l := (bs l).toList) (n := i) (by rw [len_toList]; exact hi)
  rw [getElem_toList (bs l) i hi] at m
  have m2 : ∀ x, x ∈ (bs l).toList → x ∈ l := by rw [bs_toList]; exact fun _ h => h
  exact (okB_mem h _ (m2 _ m)).1
theorem inB_dig (c : UInt8) : inB ⟨#[48, 49, 50, 51, 52, 53, 54, 55, 56, 57]⟩ c = Rpm.dig c := by
  rw [Bool.eq_iff_iff, inB_iff, toList_eq']
  unfold Rpm.dig
  simp only [List.mem_cons, List.not_mem_nil, or_false, decide_eq_true_eq, ← UInt8.toNat_inj]
  simp
  omega
theorem asc_digs : asc ⟨#[48, 49, 50, 51, 52, 53, 54, 55, 56, 57]⟩ := asc_of _ (by unfold ascB; rw [toList_eq']; decide)
theorem place_nd (l : List UInt8) : placeOf Rpm.dig l = if (Deb.nd l).length = l.length then -1 else ((Deb.nd l).length : Int) := by
  have key : ∀ l : List UInt8, (l.any Rpm.dig = false ↔ (Deb.nd l).length = l.length) ∧ (l.any Rpm.dig = true → l.findIdx Rpm.dig = (Deb.nd l).length) := by
    intro l
    unfold Deb.nd
    induction l with
    | nil => exact ⟨⟨fun _ => rfl, fun _ => rfl⟩, fun h => absurd h (by simp)⟩
    | cons c r ih =>
      cases hd : Rpm.dig c with
      | false =>
        rw [List.any_cons, hd, Bool.false_or, List.takeWhile_cons_of_pos (by simp [hd]), List.findIdx_cons, hd]
        refine ⟨by rw [ih.1]; simp, fun h => ?_⟩
        simp [ih.2 h]
      | true =>
        rw [List.any_cons, hd, Bool.true_or, List.takeWhile_cons_of_neg (by simp [hd]), List.findIdx_cons, hd]
        exact ⟨by simp, fun _ => by simp⟩
  unfold placeOf
  cases h : l.any Rpm.dig with
  | false => rw [if_neg (by simp), if_pos ((key l).1.1 h)]
  | true =>
    rw [if_pos rfl, (key l).2 h, if_neg (fun e => by rw [(key l).1.2 e] at h; exact absurd h (by simp))]
set_option maxHeartbeats 4000000 in
set_option maxRecDepth 100000 in
/-- What stands ahead of digits, and what is left. -/
theorem splitNon_calls (l : List UInt8) (w : World) (h : okB l = true) :
    Calls Tryd.prog 23 #[.string (bs l)] w fun e w' => e = .returned (.tuple #[.string (bs (Deb.nd l)), .string (bs (Deb.nr l))]) ∧ Below w.heap.size w w' := by
  have c := indexAny_calls (bs l) ⟨#[48, 49, 50, 51, 52, 53, 54, 55, 56, 57]⟩ w (asc_bs h) asc_digs (by rw [bs_size]; have := okB_len h; omega) (by decide)
  rw [show inB ⟨#[48, 49, 50, 51, 52, 53, 54, 55, 56, 57]⟩ = Rpm.dig from funext inB_dig, bs_toList, place_nd] at c
  have tl := tw_le (fun c => !Rpm.dig c) l
  have eh : (bs l).extract 0 (Deb.nd l).length = bs (Deb.nd l) := by
    rw [bs_extHead]
    exact congrArg bs (take_tw _ l)
  have et : (bs l).extract (Deb.nd l).length (bs l).size = bs (Deb.nr l) := by
    rw [bs_extAll]
    exact congrArg bs (drop_tw _ l)
  have hh : (Deb.nd l).length = 0 → Deb.nd l = [] ∧ Deb.nr l = l := fun e => by
    have e0 : Deb.nd l = [] := List.length_eq_zero_iff.1 e
    have := List.takeWhile_append_dropWhile (p := fun c => !Rpm.dig c) (l := l)
    have e1 : Deb.nd l ++ Deb.nr l = l := this
    rw [e0, List.nil_append] at e1
    exact ⟨e0, e1⟩
  have ha : (Deb.nd l).length = l.length → Deb.nd l = l ∧ Deb.nr l = [] := fun e => by
    have e1 : Deb.nd l ++ Deb.nr l = l := List.takeWhile_append_dropWhile
    have := congrArg List.length e1
    rw [List.length_append] at this
    have e2 : Deb.nr l = [] := List.length_eq_zero_iff.1 (by omega)
    rw [e2, List.append_nil] at e1
    exact ⟨e1, e2⟩
  have tl : (Deb.nd l).length ≤ l.length := tl
  obtain ⟨p, ep⟩ : ∃ p, p = Deb.nd l := ⟨_, rfl⟩
  obtain ⟨q, eq⟩ : ∃ q, q = Deb.nr l := ⟨_, rfl⟩
  rw [← ep, ← eq] at hh ha
  rw [← ep] at c eh et tl
  rw [← eq] at et
  rw [← ep, ← eq]
  clear ep eq h
  obtain ⟨s, es⟩ : ∃ s, s = bs l := ⟨_, rfl⟩
  have sl : s.toList = l := by rw [es, bs_toList]
  have sz : s.size = l.length := by rw [es, bs_size]
  rw [← es] at c eh et ⊢
  by_cases h0 : p.length = 0
  · obtain ⟨rfl, rfl⟩ := hh h0
    by_cases he : q.length = 0
    · obtain rfl : q = [] := List.length_eq_zero_iff.1 he
      rw [if_pos rfl] at c
      have f4 : s.toList.isEmpty = true := by rw [sl]; rfl
      have ES := Aside0.mk es
      clear es hh ha eh et tl h0 he sl sz
      go_enter Tryd.func23, Tryd.ntmps23
      go_wp2_with (first | (go_at_call 29; (with_reducible refine c.mono ?_); rintro e w1 ⟨rfl, h1⟩; have H1 := Aside0.mk h1; clear h1))
      exact bodyPost_ret (results_list (rs := [.tmp 2, .tmp 3]) rfl (by simp) (.tmp (.tmp .nil))) rfl ⟨by rw [ES.out]; rfl, H1.out⟩
    · rw [if_neg (fun e => he e.symm)] at c
      have ES := Aside0.mk es
      have n0 : ([] : List UInt8).length = 0 := rfl
      rw [n0] at c
      clear es hh ha eh et tl h0 he sl sz n0
      go_enter Tryd.func23, Tryd.ntmps23
      go_wp2_with (first | (go_at_call 29; (with_reducible refine c.mono ?_); rintro e w1 ⟨rfl, h1⟩; have H1 := Aside0.mk h1; clear h1))
      exact bodyPost_ret (results_list (rs := [.tmp 2, .tmp 3]) rfl (by simp) (.tmp (.tmp .nil))) rfl ⟨by rw [ES.out]; rfl, H1.out⟩
  · have f4 : s.toList.isEmpty = false := by
      rw [sl]
      cases l with
      | nil => exact absurd tl (by simpa using h0)
      | cons c r => rfl
    by_cases he : p.length = l.length
    · obtain ⟨rfl, rfl⟩ := ha he
      rw [if_pos rfl] at c
      have ES := Aside0.mk es
      clear es hh ha eh et tl h0 he sl sz
      go_enter Tryd.func23, Tryd.ntmps23
      go_wp2_with (first | (go_at_call 29; (with_reducible refine c.mono ?_); rintro e w1 ⟨rfl, h1⟩; have H1 := Aside0.mk h1; clear h1))
      go_region
      all_goals
        go_wp2_with fail
        exact bodyPost_ret (results_list (rs := [.tmp 2, .tmp 3]) rfl (by simp) (.tmp (.tmp .nil))) rfl ⟨by rw [ES.out]; rfl, Below.drew H1.out⟩
    · rw [if_neg he] at c
      obtain ⟨k, ek⟩ : ∃ k, k = p.length := ⟨_, rfl⟩
      rw [← ek] at c eh et tl h0
      have f2 : k ≤ s.size := by omega
      have f1 : (k : Int) ≤ (s.size : Int) := Int.ofNat_le.2 f2
      have f3 : ((k : Int) == 0) = false := beq_eq_false_iff_ne.2 (by omega)
      have f5 : ((k : Int) == -1) = false := beq_eq_false_iff_ne.2 (by omega)
      have EH := Aside0.mk eh
      have ET := Aside0.mk et
      clear es hh ha eh et tl h0 he sl sz ek
      go_enter Tryd.func23, Tryd.ntmps23
      go_wp2_with (first | (go_at_call 29; (with_reducible refine c.mono ?_); rintro e w1 ⟨rfl, h1⟩; have H1 := Aside0.mk h1; clear h1))
      go_region
      all_goals
        go_wp2_with fail
        exact bodyPost_ret (results_list (rs := [.tmp 2, .tmp 3]) rfl (by simp) (.tmp (.tmp .nil))) rfl ⟨by rw [← EH.out, ← ET.out]; rfl, Below.drew H1.out⟩
end Go.Proofs.YtchnlfkdgajodaaDoor.Giv
