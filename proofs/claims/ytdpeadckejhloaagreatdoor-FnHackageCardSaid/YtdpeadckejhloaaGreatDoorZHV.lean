/- What the contracts over versions like those of SemVer have in common.
   What the statements and the reference say of versions like those of SemVer made of plain parts: which are such as a text may have. -/
import Derived.Test.YtdpeadckejhloaaGreatDoorZHL
import Derived.Test.YtdpeadckejhloaaGreatDoorZHP
import Derived.Test.YtdpeadckejhloaaGreatDoorZG
import Derived.Test.YtdpeadckejhloaaGreatDoorZY
namespace Go.Proofs.YtdpeadckejhloaaGreatDoor.Giv
open Go.RowKit Go.Proofs.YtdpeadckejhloaaGreatDoorW.PrintWords Go.Proofs.YtdpeadckejhloaaGreatDoorW.PrintLast Go.Proofs.YtdpeadckejhloaaGreatDoor.Pk Go.Proofs.YtdpeadckejhloaaGreatDoor.Ord Go.Proofs.YtdpeadckejhloaaGreatDoor.QH
set_option linter.unusedVariables false
set_option linter.unusedSimpArgs false
theorem blk_put4 {w : World} {g t : Nat} {x0 x1 x2 x3 : Value} (hb : w.heap[g]? = some (Obj.cells #[x0, x1, x2, x3] t (0, 0))) (v0 v1 v2 v3 : Value) : ((((w.setCell ⟨g, 0, none⟩ v0).setCell ⟨g, 1, none⟩ v1).setCell ⟨g, 2, none⟩ v2).setCell ⟨g, 3, none⟩ v3).heap[g]? = some (Obj.cells #[v0, v1, v2, v3] t (0, 0)) := by
  have b1 := Joins.block_setCell (i := 0) hb v0
  have b2 := Joins.block_setCell (i := 1) b1 v1
  have b3 := Joins.block_setCell (i := 2) b2 v2
  exact Joins.block_setCell (i := 3) b3 v3
/-- Bytes below 128 alone. -/
def Asc (s : ByteArray) : Prop := ∀ (j : Nat) (b : UInt8), s.data.toList[j]? = some b → b.toNat < 128
theorem low_size (s : ByteArray) : (low s).size = s.size := by
  show (Lib.toLowerA s.data.toList).toArray.size = s.data.size
  unfold Lib.toLowerA
  simp
theorem low_toList (s : ByteArray) : (low s).toList = s.toList.map Lib.lowerB := by
  rw [Lib.toList_data, Lib.toList_data]
  unfold low Lib.toLowerA
  simp
/-- What a region that draws its order keeps: two texts, and all that came in. -/
theorem lkS {w a w1 : World} {g h : Nat} {x y : Value} (hS : a.cell? ⟨g, 2, none⟩ = some x ∧ a.cell? ⟨h, 2, none⟩ = some y ∧ Below w.heap.size w a) (d : Below a.heap.size a w1) : w1.cell? ⟨g, 2, none⟩ = some x ∧ w1.cell? ⟨h, 2, none⟩ = some y ∧ Below w.heap.size w w1 :=
  ⟨(d.cell (World.block_lt_of_cell? a _ hS.1)).trans hS.1, (d.cell (World.block_lt_of_cell? a _ hS.2.1)).trans hS.2.1, below_then hS.2.2 hS.2.2.size d⟩
theorem lkS8 {w a w1 : World} {g h : Nat} {x0 x1 x2 x3 y0 y1 y2 y3 : Value} (hS : a.cell? ⟨g, 0, none⟩ = some x0 ∧ a.cell? ⟨g, 1, none⟩ = some x1 ∧ a.cell? ⟨g, 2, none⟩ = some x2 ∧ a.cell? ⟨g, 3, none⟩ = some x3 ∧ a.cell? ⟨h, 0, none⟩ = some y0 ∧ a.cell? ⟨h, 1, none⟩ = some y1 ∧ a.cell? ⟨h, 2, none⟩ = some y2 ∧ a.cell? ⟨h, 3, none⟩ = some y3 ∧ Below w.heap.size w a) (d : Below a.heap.size a w1) : w1.cell? ⟨g, 0, none⟩ = some x0 ∧ w1.cell? ⟨g, 1, none⟩ = some x1 ∧ w1.cell? ⟨g, 2, none⟩ = some x2 ∧ w1.cell? ⟨g, 3, none⟩ = some x3 ∧ w1.cell? ⟨h, 0, none⟩ = some y0 ∧ w1.cell? ⟨h, 1, none⟩ = some y1 ∧ w1.cell? ⟨h, 2, none⟩ = some y2 ∧ w1.cell? ⟨h, 3, none⟩ = some y3 ∧ Below w.heap.size w w1 :=
  ⟨(d.cell (World.block_lt_of_cell? a _ hS.1)).trans hS.1, (d.cell (World.block_lt_of_cell? a _ hS.2.1)).trans hS.2.1, (d.cell (World.block_lt_of_cell? a _ hS.2.2.1)).trans hS.2.2.1, (d.cell (World.block_lt_of_cell? a _ hS.2.2.2.1)).trans hS.2.2.2.1, (d.cell (World.block_lt_of_cell? a _ hS.2.2.2.2.1)).trans hS.2.2.2.2.1, (d.cell (World.block_lt_of_cell? a _ hS.2.2.2.2.2.1)).trans hS.2.2.2.2.2.1, (d.cell (World.block_lt_of_cell? a _ hS.2.2.2.2.2.2.1)).trans hS.2.2.2.2.2.2.1, (d.cell (World.block_lt_of_cell? a _ hS.2.2.2.2.2.2.2.1)).trans hS.2.2.2.2.2.2.2.1, below_then hS.2.2.2.2.2.2.2.2 hS.2.2.2.2.2.2.2.2.size d⟩
/-- Two versions compared: by their numbers, then by what stands behind them, in small letters. -/
def lkC (zs ys : List Int) (a b : ByteArray) : Int := if padL cI 0 zs ys = 0 then Cut.buildC (low a).toList (low b).toList else padL cI 0 zs ys
theorem buildC_calls (a b : ByteArray) (w : World) (ha : a.size ≤ 40000) (hb : b.size ≤ 40000) (hL : Laid w) :
    Calls Tryz.prog 43 #[.string a, .string b] w fun e w' => e = .returned (.int .i64 (Cut.buildC a.toList b.toList)) ∧ Below w.heap.size w w' := by
  have h := build_ev a.toList b.toList (by rw [len_toList]; exact ha) (by rw [len_toList]; exact hb)
  rw [← bs_of a, ← bs_of b] at h
  obtain ⟨k, hk⟩ := h.rounds
  exact semantic_compareBuildComponents.calls k a b _ w hk hL
end Go.Proofs.YtdpeadckejhloaaGreatDoor.Giv

namespace Go.Proofs.YtdpeadckejhloaaGreatDoor.QH
open Go.RowKit Go.Proofs.YtdpeadckejhloaaGreatDoorW.PrintWords Go.Proofs.YtdpeadckejhloaaGreatDoorW.PrintLast Go.Proofs.YtdpeadckejhloaaGreatDoor.Pk Go.Proofs.YtdpeadckejhloaaGreatDoor.Giv Go.Proofs.YtdpeadckejhloaaGreatDoor.Ord
set_option linter.unusedVariables false
set_option linter.unusedSimpArgs false
theorem tidy_ok (ng : Bool) : ∀ l : List UInt8, ∃ t : Bool × ByteArray, Ev (fun k => spec_numTidy.l0 k ng (bs l)) t ∧ t.2.toList.length ≤ l.length ∧ (t.2.toList.length = l.length → (∀ c r, l = c :: r → c ≠ 0) ∧ t = ((if ng = true then l != [] else false), bs l))
  | [] => by
    refine ⟨((if ng = true then ([] : List UInt8) != [] else false), bs []), ?_, by rw [bs_toList]; exact Nat.le_refl _, fun _ => ⟨(fun c r h => by cases h), rfl⟩⟩
    refine Ev.step (fun k => by rw [spec_numTidy.l0]) ?_
    refine ev_neg (by rw [bs_size]; simp) ?_
    rw [bs_toList]
    cases ng with
    | true => exact ev_pos rfl (Ev.now _)
    | false => exact ev_neg (by simp) (Ev.now _)
  | c :: r => by
    have hp : ((bs (c :: r)).size : Int) > 0 := by rw [bs_size, List.length_cons]; omega
    by_cases hc : c = 0
    · obtain ⟨t, h1, h2, _⟩ := tidy_ok ng r
      refine ⟨t, ?_, by rw [List.length_cons]; omega, fun e => by rw [List.length_cons] at e; omega⟩
      refine Ev.step (fun k => by rw [spec_numTidy.l0, bs_tail]) ?_
      exact ev_pos hp (ev_pos (by omega) (ev_pos (by rw [bs_bt0, hc]; rfl) (ev_pos (by omega) h1)))
    · refine ⟨((if ng = true then (c :: r) != [] else false), bs (c :: r)), ?_, by rw [bs_toList]; exact Nat.le_refl _, fun _ => ⟨(fun a b h => by cases h; exact hc), rfl⟩⟩
      refine Ev.step (fun k => by rw [spec_numTidy.l0]) ?_
      have hn : ¬ (bt (bs (c :: r)) 0 = 0) := by
        rw [bs_bt0]
        intro e
        exact hc (UInt8.toNat_inj.1 (by rw [show (0 : UInt8).toNat = 0 from rfl]; omega))
      refine ev_pos hp (ev_pos (by omega) (ev_neg hn ?_))
      rw [bs_toList]
      cases ng with
      | true => exact ev_pos rfl (Ev.now _)
      | false => exact ev_neg (by simp) (Ev.now _)
theorem intOK_ev (ng : Bool) (s : ByteArray) : ∃ b, Ev (fun k => spec_IntOK.f k ng s) b ∧ (b = true → (ng, s) = told (zOf ng s)) := by
  obtain ⟨t, h1, h2, h3⟩ := tidy_ok ng s.toList
  rw [← bs_of s] at h1
  unfold spec_IntOK.f spec_numTidy.f
  refine ⟨_, h1.bind (Ev.now _), fun h => ?_⟩
  rw [Bool.and_eq_true, beq_iff_eq, beq_iff_eq] at h
  obtain ⟨hz, e⟩ := h3 (by rw [h.2])
  have hm := Lb.mag_be s.toList.length s.toList rfl hz
  have hb : s = bs s.toList := bs_of s
  rw [e] at h
  unfold told zOf
  cases ng with
  | false =>
    rw [if_neg (by simp), show ((Dg.be s.toList : Nat) : Int).natAbs = Dg.be s.toList by omega, hm, ← hb, decide_eq_false (by omega)]
  | true =>
    have hne : s.toList ≠ [] := by
      have := h.1
      simpa using this
    have hp : Dg.be s.toList ≠ 0 := by
      intro h0
      rw [h0, Lb.mag_zero] at hm
      exact hne hm.symm
    rw [if_pos rfl, show (-((Dg.be s.toList : Nat) : Int)).natAbs = Dg.be s.toList by omega, hm, ← hb, decide_eq_true (by omega)]
theorem intOK_tm (ng : Bool) (s : ByteArray) : Tm (fun k => spec_IntOK.f k ng s) := by
  obtain ⟨b, h, _⟩ := intOK_ev ng s
  exact ⟨b, h⟩
theorem rdT_nat (l : List S55) (i : Nat) (h : i < l.length) : rd_T55 l (i : Int) = l[i]'h := by
  unfold rd_T55
  rw [Int.toNat_natCast, List.getD_eq_getElem?_getD, List.getElem?_eq_getElem h]
  rfl
theorem numbers_loop (l : List S55) (hl : l.length < 4611686018427387904) (d : Nat) : ∀ i : Nat, i + d = l.length → ∃ b, Ev (fun k => laws_numbers.l0 k l l (l.length : Int) (i : Int)) b ∧ (b = true → (∀ j, i ≤ j → ∀ h : j < l.length, (l[j]'h).f1.size ≤ 1500 ∧ ((l[j]'h).f0, (l[j]'h).f1) = told (zOf (l[j]'h).f0 (l[j]'h).f1)) ∧ l.length ≤ 150) := by
  induction d with
  | zero =>
    intro i hi
    refine ⟨decide ((l.length : Int) ≤ 150), ?_, fun h => ⟨fun j h1 h2 => absurd h2 (by omega), by have := of_decide_eq_true h; omega⟩⟩
    refine Ev.step (fun k => by rw [laws_numbers.l0]) ?_
    exact ev_neg (by omega) (Ev.now _)
  | succ d ih =>
    intro i hi
    have hlt : i < l.length := by omega
    have w := wr i (by omega)
    have r := rdT_nat l i hlt
    obtain ⟨q, hq, hk⟩ := ih (i + 1) (by omega)
    obtain ⟨t, ht, hto⟩ := intOK_ev (l[i]'hlt).f0 (l[i]'hlt).f1
    cases t with
    | false =>
      refine ⟨false, ?_, fun h => by cases h⟩
      refine Ev.step (fun k => by rw [laws_numbers.l0, r, w]) ?_
      exact ev_pos (by omega) (ev_pos (by omega) (ev_pos (by omega) (Ev.bind ht (ev_neg (by simp) (Ev.now _)))))
    | true =>
      by_cases hs : ((l[i]'hlt).f1.size : Int) > 1500
      · refine ⟨false, ?_, fun h => by cases h⟩
        refine Ev.step (fun k => by rw [laws_numbers.l0, r, w]) ?_
        exact ev_pos (by omega) (ev_pos (by omega) (ev_pos (by omega) (Ev.bind ht (ev_pos rfl (ev_pos hs (Ev.now _))))))
      · refine ⟨q, ?_, fun h => ⟨fun j h1 h2 => ?_, (hk h).2⟩⟩
        · refine Ev.step (fun k => by rw [laws_numbers.l0, r, w]) ?_
          exact ev_pos (by omega) (ev_pos (by omega) (ev_pos (by omega) (Ev.bind ht (ev_pos rfl (ev_neg hs hq)))))
        · by_cases e : j = i
          · subst e
            exact ⟨by omega, hto rfl⟩
          · exact (hk h).1 j (by omega) h2
theorem numbers_ev (l : List S55) (hl : l.length < 4611686018427387904) : ∃ b, Ev (fun k => laws_numbers.f k l) b ∧ (b = true → small l = true ∧ l = nl (zn l)) := by
  obtain ⟨b, hb, hk⟩ := numbers_loop l hl l.length 0 (Nat.zero_add _)
  refine ⟨b, hb, fun h => ?_⟩
  obtain ⟨h1, h2⟩ := hk h
  refine ⟨?_, ?_⟩
  · unfold small
    rw [Bool.and_eq_true, List.all_eq_true]
    refine ⟨decide_eq_true (by omega), fun x hx => decide_eq_true ?_⟩
    obtain ⟨j, hj, rfl⟩ := List.mem_iff_getElem.1 hx
    have := (h1 j (Nat.zero_le _) hj).1
    omega
  · unfold nl zn
    rw [List.map_map]
    refine List.ext_getElem (by simp) (fun j hj hj2 => ?_)
    rw [List.getElem_map]
    have := (h1 j (Nat.zero_le _) hj).2
    show l[j] = ⟨(told (zOf (l[j]'hj).f0 (l[j]'hj).f1)).1, (told (zOf (l[j]'hj).f0 (l[j]'hj).f1)).2⟩
    rw [← this]
theorem fits_loop (l : List S55) (hl : l.length < 4611686018427387904) (d : Nat) : ∀ i : Nat, i + d = l.length → Tm (fun k => laws_zzFits2.l0 k l (l.length : Int) (i : Int)) := by
  induction d with
  | zero =>
    intro i hi
    refine Tm.step (fun k => by rw [laws_zzFits2.l0]) ?_
    exact Tm.ite (fun h => absurd h (by omega)) (fun _ => Tm.now _)
  | succ d ih =>
    intro i hi
    have w := wr i (by omega)
    have f3 : ∀ (a : Bool) (b : ByteArray), Tm (fun _ : Nat => laws_zzFits3.f a b) := fun a b => by
      unfold laws_zzFits3.f
      exact Tm.ite (fun _ => Tm.now _) (fun _ => Tm.now _)
    refine Tm.step (fun k => by rw [laws_zzFits2.l0, w]) ?_
    refine Tm.ite (fun _ => Tm.ite (fun _ => Tm.ite (fun _ => Tm.bind (f3 _ _) (fun _ => Tm.ite (fun _ => ih (i + 1) (by omega)) (fun _ => Tm.now _))) (fun h => absurd (by omega) h)) (fun h => absurd (by omega) h)) (fun h => absurd (by omega) h)
theorem fits_ev (l : List S55) : ∃ b, Ev (fun k => laws_zzFits2.f k l) b ∧ (b = true → l.length ≤ 2147483647) := by
  unfold laws_zzFits2.f
  by_cases h : (l.length : Int) > 2147483647
  · exact ⟨false, ev_pos h (Ev.now _), fun e => by cases e⟩
  · obtain ⟨b, e⟩ := fits_loop l (by omega) l.length 0 (by omega)
    exact ⟨b, ev_neg h e, fun _ => by omega⟩
theorem fits4_ev (v : Bool) (l : List S55) (b o : ByteArray) : ∃ q, Ev (fun k => laws_zzFits4.f k v l b o) q ∧ (q = true → l.length ≤ 2147483647) := by
  obtain ⟨q, h1, h2⟩ := fits_ev l
  unfold laws_zzFits4.f
  cases q with
  | false => exact ⟨false, h1.bind (ev_neg (by simp) (Ev.now _)), fun e => by cases e⟩
  | true =>
    have t : Tm (fun _ : Nat => (if (b.size : Int) > 2147483647 then some false else if (o.size : Int) > 2147483647 then some false else some true : Option Bool)) := Tm.ite (fun _ => Tm.now _) (fun _ => Tm.ite (fun _ => Tm.now _) (fun _ => Tm.now _))
    obtain ⟨q, hq⟩ := t
    exact ⟨q, h1.bind (ev_pos rfl hq), fun _ => h2 rfl⟩
theorem buildK_ev (s : ByteArray) (hs : s.size ≤ 1500) : ∃ b, Ev (fun k => spec_BuildKnown.f k s) b ∧ (b = true → ascB s = true ∧ idK (liked s.toList) = true) := by
  obtain ⟨l, z⟩ := liked_small s hs
  have e : Giv.spec_likeIdentifiers.f s = some (liked s.toList) := by unfold Giv.spec_likeIdentifiers.f; rw [if_pos (by omega)]
  have a := ascii_ev s (by omega)
  have i := idKnown_ev (liked s.toList) (by omega) (fun x h => by have := z x h; omega)
  unfold spec_BuildKnown.f
  cases h : ascB s with
  | false =>
    rw [h] at a
    exact ⟨false, a.bind (ev_neg (by simp) (Ev.now _)), fun h => absurd h (by simp)⟩
  | true =>
    rw [h] at a
    refine ⟨idK (liked s.toList), a.bind (ev_pos rfl ?_), fun h => ⟨rfl, h⟩⟩
    rw [e]
    exact ev_some (i.bind (Ev.now _))
theorem intsOK_tm (l : List S55) (hl : l.length < 4611686018427387904) (d : Nat) : ∀ i : Nat, i + d = l.length → Tm (fun k => spec_IntsOK.l0 k l (i : Int)) := by
  induction d with
  | zero =>
    intro i hi
    refine Tm.step (fun k => by rw [spec_IntsOK.l0]) ?_
    exact Tm.ite (fun h => absurd h (by omega)) (fun _ => Tm.now _)
  | succ d ih =>
    intro i hi
    have w := wr i (by omega)
    refine Tm.step (fun k => by rw [spec_IntsOK.l0, w]) ?_
    exact Tm.ite (fun _ => Tm.ite (fun _ => Tm.bind (intOK_tm _ _) (fun _ => Tm.ite (fun _ => ih (i + 1) (by omega)) (fun _ => Tm.now _))) (fun h => absurd (by omega) h)) (fun h => absurd (by omega) h)
theorem likeOK_loop (v : Bool) (l : List S55) (b o : ByteArray) (hl : l.length < 4611686018427387904) (hs : b.size ≤ 1500) (d : Nat) : ∀ i : Nat, i + d = l.length → ∃ q, Ev (fun k => spec_LikeOK.l0 k (i : Int) v l b o) q ∧ (q = true → ascB b = true ∧ idK (liked b.toList) = true) := by
  induction d with
  | zero =>
    intro i hi
    obtain ⟨t, ht⟩ := intsOK_tm l hl l.length 0 (Nat.zero_add _)
    obtain ⟨q, hq, hk⟩ := buildK_ev b hs
    cases t with
    | false =>
      refine ⟨false, ?_, fun h => by cases h⟩
      refine Ev.step (fun k => by rw [spec_LikeOK.l0]) ?_
      unfold spec_IntsOK.f
      exact ev_neg (by omega) (ht.bind (ev_neg (by simp) (Ev.now _)))
    | true =>
      cases q with
      | false =>
        refine ⟨false, ?_, fun h => by cases h⟩
        refine Ev.step (fun k => by rw [spec_LikeOK.l0]) ?_
        unfold spec_IntsOK.f
        exact ev_neg (by omega) (ht.bind (ev_pos rfl (hq.bind (ev_neg (by simp) (Ev.now _)))))
      | true =>
        have t2 : Tm (fun _ : Nat => (if b.toList = ([] : List UInt8) then some true else if 0 < (b.size : Int) then (spec_isDigit.f (bt b 0)).bind fun t => if t = true then some false else some (bt b 0 != 46) else none : Option Bool)) := by
          by_cases hb : b.toList = ([] : List UInt8)
          · exact ⟨true, ev_pos hb (Ev.now _)⟩
          · have hp : 0 < (b.size : Int) := by
              have := List.length_pos_iff.2 hb
              rw [len_toList] at this
              omega
            refine Tm.ite (fun h => absurd h hb) (fun _ => Tm.ite (fun _ => ?_) (fun h => absurd hp h))
            have t3 : Tm (fun _ : Nat => spec_isDigit.f (bt b 0)) := by
              unfold spec_isDigit.f
              first | exact Tm.now _ | exact Tm.ite (fun _ => Tm.now _) (fun _ => Tm.now _)
            exact Tm.bind t3 (fun _ => Tm.ite (fun _ => Tm.now _) (fun _ => Tm.now _))
        obtain ⟨p, hp⟩ := t2
        refine ⟨p, ?_, fun _ => hk rfl⟩
        refine Ev.step (fun k => by rw [spec_LikeOK.l0]) ?_
        unfold spec_IntsOK.f
        exact ev_neg (by omega) (ht.bind (ev_pos rfl (hq.bind (ev_pos rfl hp))))
  | succ d ih =>
    intro i hi
    have w := wr i (by omega)
    obtain ⟨q, hq, hk⟩ := ih (i + 1) (by omega)
    by_cases hn : (rd_T55 l (i : Int)).f0 = true
    · refine ⟨false, ?_, fun h => by cases h⟩
      refine Ev.step (fun k => by rw [spec_LikeOK.l0, w]) ?_
      exact ev_pos (by omega) (ev_pos (by omega) (ev_pos hn (Ev.now _)))
    · refine ⟨q, ?_, hk⟩
      refine Ev.step (fun k => by rw [spec_LikeOK.l0, w]) ?_
      exact ev_pos (by omega) (ev_pos (by omega) (ev_neg hn hq))
/-- What the statements' condition tells of a version. -/
structure Lkd (a : S24) : Prop where
  small : small a.f1 = true
  told : a.f1 = nl (zn a.f1)
  size : a.f2.size ≤ 1500
  asc : ascB a.f2 = true
  ids : idK (liked a.f2.toList) = true
theorem rdL_nat (l : List S24) (i : Nat) (h : i < l.length) : rd_T24 l (i : Int) = l[i]'h := by
  unfold rd_T24
  rw [Int.toNat_natCast, List.getD_eq_getElem?_getD, List.getElem?_eq_getElem h]
  rfl
theorem likes_loop (l : List S24) (hl : l.length < 4611686018427387904) (hf : ∀ x ∈ l, x.f1.length < 4611686018427387904) (d : Nat) : ∀ i : Nat, i + d = l.length → ∃ q, Ev (fun k => laws_likes.l0 k l (l.length : Int) (i : Int)) q ∧ (q = true → ∀ j, i ≤ j → ∀ h : j < l.length, Lkd (l[j]'h)) := by
  induction d with
  | zero =>
    intro i hi
    refine ⟨true, ?_, fun _ j h1 h2 => absurd h2 (by omega)⟩
    refine Ev.step (fun k => by rw [laws_likes.l0]) ?_
    exact ev_neg (by omega) (Ev.now _)
  | succ d ih =>
    intro i hi
    have hlt : i < l.length := by omega
    have w := wr i (by omega)
    have r := rdL_nat l i hlt
    obtain ⟨q, hq, hk⟩ := ih (i + 1) (by omega)
    have hfi := hf _ (List.getElem_mem hlt)
    have sh := short_ev [(l[i]'hlt).f2, (l[i]'hlt).f3] (by simp)
    obtain ⟨nb, en, sn⟩ := numbers_ev (l[i]'hlt).f1 hfi
    have st : ∀ {g : Nat → Option Bool} {p : Bool}, Ev (fun k => (laws_short.f k [(l[i]'hlt).f2, (l[i]'hlt).f3]).bind fun t => if t = true then g k else some false) p → Ev (fun k => (laws_short.f k [(l[i]'hlt).f2, (l[i]'hlt).f3]).bind fun t => if t = true then g k else some false) p := fun h => h
    cases hsh : shortB [(l[i]'hlt).f2, (l[i]'hlt).f3] with
    | false =>
      rw [hsh] at sh
      refine ⟨false, ?_, fun h => by cases h⟩
      refine Ev.step (fun k => by rw [laws_likes.l0, r, w]) ?_
      exact ev_pos (by omega) (ev_pos (by omega) (ev_pos (by omega) (sh.bind (ev_neg (by simp) (Ev.now _)))))
    | true =>
      rw [hsh] at sh
      have hz := short_sizes hsh (l[i]'hlt).f2 (by simp)
      cases nb with
      | false =>
        refine ⟨false, ?_, fun h => by cases h⟩
        refine Ev.step (fun k => by rw [laws_likes.l0, r, w]) ?_
        exact ev_pos (by omega) (ev_pos (by omega) (ev_pos (by omega) (sh.bind (ev_pos rfl (en.bind (ev_neg (by simp) (Ev.now _)))))))
      | true =>
        obtain ⟨p, ep, sp⟩ := likeOK_loop (l[i]'hlt).f0 (l[i]'hlt).f1 (l[i]'hlt).f2 (l[i]'hlt).f3 hfi hz (l[i]'hlt).f1.length 0 (Nat.zero_add _)
        have ep' : Ev (fun k => spec_LikeOK.f k (l[i]'hlt).f0 (l[i]'hlt).f1 (l[i]'hlt).f2 (l[i]'hlt).f3) p := ep
        cases p with
        | false =>
          refine ⟨false, ?_, fun h => by cases h⟩
          refine Ev.step (fun k => by rw [laws_likes.l0, r, w]) ?_
          exact ev_pos (by omega) (ev_pos (by omega) (ev_pos (by omega) (sh.bind (ev_pos rfl (en.bind (ev_pos rfl (ep'.bind (ev_neg (by simp) (Ev.now _)))))))))
        | true =>
          refine ⟨q, ?_, fun h j h1 h2 => ?_⟩
          · refine Ev.step (fun k => by rw [laws_likes.l0, r, w]) ?_
            exact ev_pos (by omega) (ev_pos (by omega) (ev_pos (by omega) (sh.bind (ev_pos rfl (en.bind (ev_pos rfl (ep'.bind (ev_pos rfl hq))))))))
          · by_cases e : j = i
            · subst e
              exact ⟨(sn rfl).1, (sn rfl).2, hz, (sp rfl).1, (sp rfl).2⟩
            · exact hk h j (by omega) h2
theorem likes_ev (a b : S24) (ha : a.f1.length ≤ 2147483647) (hb : b.f1.length ≤ 2147483647) : ∃ q, Ev (fun k => laws_likes.f k [a, b]) q ∧ (q = true → Lkd a ∧ Lkd b) := by
  obtain ⟨q, e, s⟩ := likes_loop [a, b] (by simp) (fun x hx => by
    rcases List.mem_cons.1 hx with rfl | hx
    · omega
    · rw [List.mem_singleton.1 hx]; omega) 2 0 rfl
  exact ⟨q, e, fun h => ⟨s h 0 (Nat.le_refl _) (by simp), s h 1 (by omega) (by simp)⟩⟩
theorem asc_of {s : ByteArray} (h : ascB s = true) : Asc s := by
  intro j b hj
  unfold ascB at h
  rw [List.all_eq_true, Lib.toList_data] at h
  exact of_decide_eq_true (h b (List.mem_of_getElem? hj))
/-- Identifiers in small letters are known where they are. -/
theorem liked_low (s : ByteArray) (h : idK (liked s.toList) = true) : idK (liked (low s).toList) = true := by
  unfold idK liked at *
  rw [low_toList, Low.core_low]
  by_cases hc : Cut.core s.toList = []
  · rw [hc]
    simp
  · rw [if_neg hc] at h
    rw [if_neg (by simpa using hc), Low.cutAt_low 46 (by decide)]
    rw [List.all_eq_true] at h ⊢
    intro x hx
    obtain ⟨y, hy, rfl⟩ := List.mem_map.1 hx
    obtain ⟨z, hz, rfl⟩ := List.mem_map.1 hy
    have := h (bs z) (List.mem_map.2 ⟨z, hz, rfl⟩)
    rw [bs_toList] at this ⊢
    rw [Low.signed_low]
    exact this
/-- The reference's order of two such versions, in small letters: the program's. -/
theorem nuget_ev (a b : S24) (ha : Lkd a) (hb : Lkd b) : Ev (fun k => spec_NuGetCompare.f k a.f0 a.f1 a.f2 a.f3 b.f0 b.f1 b.f2 b.f3) (lkC (zn a.f1) (zn b.f1) a.f2 b.f2, true) := by
  have z : ∀ {l : List S55}, small l = true → (zn l).length < 4611686018427387904 := fun h => by rw [zn_len]; have := small_len h; omega
  have cn := compareNumbers_ev (zn a.f1) (zn b.f1) (z ha.small) (z hb.small)
  rw [← ha.told, ← hb.told] at cn
  have sb := specBuilds_ev (low a.f2) (low b.f2) (by rw [low_size]; exact ha.size) (by rw [low_size]; exact hb.size) (liked_low _ ha.ids) (liked_low _ hb.ids)
  have l1 : Giv.spec_lower.f a.f2 = some (low a.f2) := by unfold Giv.spec_lower.f; rw [if_pos (by have := ha.size; omega)]
  have l2 : Giv.spec_lower.f b.f2 = some (low b.f2) := by unfold Giv.spec_lower.f; rw [if_pos (by have := hb.size; omega)]
  unfold spec_NuGetCompare.f spec_likeOrder.f
  rw [l1, l2]
  refine ev_some (ev_some (Ev.bind (cn.bind ?_) (Ev.now _)))
  unfold lkC
  by_cases h : padL cI 0 (zn a.f1) (zn b.f1) = 0
  · rw [if_pos h]
    exact ev_pos h (sb.bind (Ev.now _))
  · rw [if_neg h]
    exact ev_neg h (Ev.now _)
theorem turned_of {r q : Int} (h : q = -r) (h1 : -1 ≤ r) (h2 : r ≤ 1) : laws_turned.f r q = some true := by
  unfold laws_turned.f
  subst h
  have w : wrap64 (- -r) = r := by unfold wrap64; omega
  rw [w, if_pos rfl, if_pos (by omega), decide_eq_true (by omega)]
theorem lkC_cmp (f : S24 → S24 → Int) (hf : f = fun a b => lkC (zn a.f1) (zn b.f1) a.f2 b.f2) : Cmp f := by
  have h := ((padL_cmp cI_cmp 0).key (fun a : S24 => zn a.f1)).then_ (Cut.buildC_cmp.key (fun a : S24 => (low a.f2).toList))
  subst hf
  exact h
end Go.Proofs.YtdpeadckejhloaaGreatDoor.QH
