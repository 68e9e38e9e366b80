/- What the reference answers over identifiers, and over what stands behind a version's numbers. -/
import Derived.Test.YtfgechefinijbaaDoorZLP
import Derived.Test.YtfgechefinijbaaDoorLPon
import Derived.Test.YtfgechefinijbaaDoorLPsplit
import Derived.Test.YtfgechefinijbaaDoorGivLi
namespace Go.Proofs.YtfgechefinijbaaDoor.QL
open Go.RowKit Go.Proofs.YtfgechefinijbaaDoorW.PrintWords Go.Proofs.YtfgechefinijbaaDoorW.PrintLast Go.Proofs.YtfgechefinijbaaDoor.Pk Go.Proofs.YtfgechefinijbaaDoor.Giv Go.Proofs.YtfgechefinijbaaDoor.Ord
set_option linter.unusedVariables false

theorem ordI_f (a b : Int) : spec_orderInts.f a b = some (cI a b) := by
  unfold spec_orderInts.f cI
  by_cases h : a < b
  · rw [if_pos h, if_pos h]
  · rw [if_neg h, if_neg h]
    by_cases h2 : b < a
    · rw [if_pos h2, if_pos h2]
    · rw [if_neg h2, if_neg h2]
theorem pageOne_ev (a b : ByteArray) (ha : a.size < 4611686018427387904) (hb : b.size < 4611686018427387904) : Ev (fun k => spec_pageOne.f k a b) (Seg.idS a.toList b.toList) := by
  have on := orderNumbers_ev a b ha hb
  unfold spec_pageOne.f
  refine (allDigits_ev a ha).bind ((allDigits_ev b hb).bind ?_)
  have tail : ∀ dx dy : Bool, Num.digits a.toList = dx → Num.digits b.toList = dy → Ev (fun k => spec_pageOne.j0 k a b dx dy (dx && dy)) (Seg.idS a.toList b.toList) := by
    intro dx dy e1 e2
    refine Ev.step (fun k => by rw [spec_pageOne.j0]) ?_
    unfold Seg.idS
    rw [e1, e2]
    cases dx with
    | true =>
      cases dy with
      | true => exact ev_pos rfl (on.bind (Ev.now _))
      | false => exact ev_neg (by simp) (ev_pos rfl (Ev.now _))
    | false =>
      cases dy with
      | true => exact ev_neg (by simp) (ev_neg (by simp) (ev_pos rfl (Ev.now _)))
      | false =>
        refine ev_neg (by simp) (ev_neg (by simp) (ev_neg (by simp) ?_))
        unfold Giv.spec_order.f
        exact ev_some (Ev.now _)
  cases hd : Num.digits a.toList with
  | true =>
    refine ev_pos rfl ?_
    have := tail true (Num.digits b.toList) hd rfl
    rw [Bool.true_and] at this
    exact this
  | false =>
    refine ev_neg (by simp) ?_
    have := tail false (Num.digits b.toList) hd rfl
    rw [Bool.false_and] at this
    exact this
theorem ids_loop (a b : List ByteArray) (ha : a.length < 4611686018427387904) (hb : b.length < 4611686018427387904) (hsa : ∀ s ∈ a, s.size < 4611686018427387904) (hsb : ∀ s ∈ b, s.size < 4611686018427387904) (d : Nat) : ∀ i : Nat, i + d = a.length → i ≤ b.length →
    Ev (fun k => spec_Identifiers.l0 k a b (i : Int)) (lexL Seg.idS ((tl a).drop i) ((tl b).drop i)) := by
  have dr : ∀ (l : List ByteArray) (i : Nat) (h : i < l.length), (tl l).drop i = (l[i]'h).toList :: (tl l).drop (i + 1) := by
    intro l i h
    unfold tl
    rw [← List.map_drop, List.drop_eq_getElem_cons h, List.map_cons, List.map_drop]
  have en : ∀ (l : List ByteArray) (i : Nat) (h : ¬ i < l.length), (tl l).drop i = [] := by
    intro l i h
    exact List.drop_of_length_le (by rw [tl_len]; omega)
  have last : ∀ i : Nat, i ≤ a.length → i ≤ b.length → (i = a.length ∨ i = b.length) → Ev (fun k => spec_Identifiers.j1 k a b (i : Int) false) (lexL Seg.idS ((tl a).drop i) ((tl b).drop i)) := by
    intro i hi hj hx
    refine Ev.step (fun k => by rw [spec_Identifiers.j1, ordI_f]) ?_
    refine ev_neg (by simp) (ev_some ?_)
    have e : lexL Seg.idS ((tl a).drop i) ((tl b).drop i) = cI (a.length : Int) (b.length : Int) := by
      by_cases h1 : i < a.length
      · have h2 : ¬ i < b.length := by omega
        rw [dr a i h1, en b i h2, lexL, cI_pos.2 (by omega)]
      · by_cases h2 : i < b.length
        · rw [en a i h1, dr b i h2, lexL, cI_neg.2 (by omega)]
        · rw [en a i h1, en b i h2, lexL, cI_zero.2 (by omega)]
    rw [e]
    exact Ev.now _
  induction d with
  | zero =>
    intro i hi hj
    refine Ev.step (fun k => by rw [spec_Identifiers.l0]) ?_
    exact ev_neg (by omega) (last i (by omega) hj (.inl (by omega)))
  | succ d ih =>
    intro i hi hj
    refine Ev.step (fun k => by rw [spec_Identifiers.l0]) ?_
    refine ev_pos (by omega) ?_
    by_cases h : i < b.length
    · have h1 : i < a.length := by omega
      have w := wr i (by omega)
      have nx := ih (i + 1) (by omega) (by omega)
      rw [← w] at nx
      rw [decide_eq_true (by omega)]
      refine Ev.step (fun k => by rw [spec_Identifiers.j1, rdOf_nat _ _ i h1, rdOf_nat _ _ i h]) ?_
      refine ev_pos rfl (ev_pos (by omega) (ev_pos (by omega) (ev_pos (by omega) ((pageOne_ev _ _ (hsa _ (List.getElem_mem h1)) (hsb _ (List.getElem_mem h))).bind ?_))))
      rw [dr a i h1, dr b i h, lexL]
      by_cases hz : Seg.idS (a[i]'h1).toList (b[i]'h).toList = 0
      · rw [if_pos hz]
        exact ev_pos hz nx
      · rw [if_neg hz]
        exact ev_neg hz (Ev.now _)
    · rw [decide_eq_false (by omega)]
      exact last i (by omega) hj (.inr (by omega))
theorem specIds_ev (a b : List ByteArray) (ha : a.length < 4611686018427387904) (hb : b.length < 4611686018427387904) (hsa : ∀ s ∈ a, s.size < 4611686018427387904) (hsb : ∀ s ∈ b, s.size < 4611686018427387904) : Ev (fun k => spec_Identifiers.f k a b) (lexL Seg.idS (tl a) (tl b)) := by
  have := ids_loop a b ha hb hsa hsb a.length 0 (by omega) (by omega)
  rw [List.drop_zero, List.drop_zero] at this
  exact this
/-- Over identifiers without signs ahead of digits the program's order is the reference's. -/
theorem specIds_same (a b : List ByteArray) (ha : idK a = true) (hb : idK b = true) : lexL Seg.idS (tl a) (tl b) = lexL Seg.idC (tl a) (tl b) :=
  Seg.lexL_congr (p := fun x => Seg.signed x = false) (fun x y hx hy => Seg.idS_eq hx hy) _ _ (idK_tl ha) (idK_tl hb)
theorem liked_small (s : ByteArray) (hs : s.size ≤ 1500) : (liked s.toList).length ≤ 1501 ∧ ∀ x ∈ liked s.toList, x.size ≤ 1500 := by
  have c := Cut.core_len s.toList
  rw [len_toList] at c
  unfold liked
  split
  · exact ⟨by simp, fun x h => absurd h (by simp)⟩
  · obtain ⟨a, b⟩ := Cut.cutAt_sizes 46 (Cut.core s.toList)
    refine ⟨by rw [List.length_map]; omega, fun x h => ?_⟩
    obtain ⟨y, hy, rfl⟩ := List.mem_map.1 h
    rw [bs_size]
    have := b y hy
    omega
theorem liked_nil (s : List UInt8) : (liked s).length = 0 ↔ Cut.core s = [] := by
  unfold liked
  by_cases h : Cut.core s = []
  · rw [if_pos h]
    simp [h]
  · rw [if_neg h, List.length_map]
    have := List.length_pos_iff.2 (Cut.cutAt_ne 46 (Cut.core s))
    constructor
    · omega
    · intro e; exact absurd e h
theorem liked_tl {s : List UInt8} (h : Cut.core s ≠ []) : tl (liked s) = Cut.cutAt 46 (Cut.core s) := by
  unfold liked
  rw [if_neg h, tl_bs]
/-- What stands behind the numbers, by the reference: the program's order. -/
theorem specBuilds_ev (a b : ByteArray) (ha : a.size ≤ 1500) (hb : b.size ≤ 1500) (ka : idK (liked a.toList) = true) (kb : idK (liked b.toList) = true) : Ev (fun k => spec_Builds.f k a b) (Cut.buildC a.toList b.toList) := by
  have ea : Giv.spec_likeIdentifiers.f a = some (liked a.toList) := by unfold Giv.spec_likeIdentifiers.f; rw [if_pos (by omega)]
  have eb : Giv.spec_likeIdentifiers.f b = some (liked b.toList) := by unfold Giv.spec_likeIdentifiers.f; rw [if_pos (by omega)]
  obtain ⟨la, za⟩ := liked_small a ha
  obtain ⟨lb, zb⟩ := liked_small b hb
  have na := liked_nil a.toList
  have nb := liked_nil b.toList
  have mn1 : ∀ n : Nat, mn (n : Int) 1 = if n = 0 then 0 else 1 := fun n => by unfold mn; split <;> split <;> omega
  have none_ : (Cut.core a.toList = [] ∨ Cut.core b.toList = []) → Ev (fun k => spec_Builds.j0 k (liked a.toList) (liked b.toList) true) (Cut.buildC a.toList b.toList) := by
    intro hx
    refine Ev.step (fun k => by rw [spec_Builds.j0, ordI_f, mn1, mn1]) ?_
    refine ev_pos rfl (ev_some ?_)
    unfold Cut.buildC
    by_cases h1 : Cut.core a.toList = []
    · by_cases h2 : Cut.core b.toList = []
      · rw [if_pos (na.2 h1), if_pos (nb.2 h2), h1, h2]
        exact Ev.now _
      · rw [if_pos (na.2 h1), if_neg (fun e => h2 (nb.1 e)), h1, em_nil, em_ne h2]
        exact Ev.now _
    · have h2 : Cut.core b.toList = [] := hx.resolve_left h1
      rw [if_neg (fun e => h1 (na.1 e)), if_pos (nb.2 h2), h2, em_nil, em_ne h1]
      exact Ev.now _
  unfold spec_Builds.f
  rw [ea, eb]
  refine ev_some (ev_some ?_)
  by_cases h1 : Cut.core a.toList = []
  · exact ev_pos (by have := na.2 h1; omega) (none_ (.inl h1))
  · have n1 : ¬ (liked a.toList).length = 0 := fun e => h1 (na.1 e)
    refine ev_neg (by omega) ?_
    by_cases h2 : Cut.core b.toList = []
    · have e : (((liked b.toList).length : Int) == 0) = true := beq_iff_eq.2 (by have := nb.2 h2; omega)
      rw [e]
      exact none_ (.inr h2)
    · have n2 : ¬ (liked b.toList).length = 0 := fun e => h2 (nb.1 e)
      have e : (((liked b.toList).length : Int) == 0) = false := beq_eq_false_iff_ne.2 (by omega)
      rw [e]
      refine Ev.step (fun k => by rw [spec_Builds.j0]) ?_
      have ids := specIds_ev (liked a.toList) (liked b.toList) (by omega) (by omega) (fun x h => by have := za x h; omega) (fun x h => by have := zb x h; omega)
      rw [specIds_same _ _ ka kb, liked_tl h1, liked_tl h2] at ids
      refine ev_neg (by simp) (ids.bind ?_)
      unfold Cut.buildC
      rw [em_ne h1, em_ne h2, if_pos (by decide)]
      exact Ev.now _
end Go.Proofs.YtfgechefinijbaaDoor.QL
