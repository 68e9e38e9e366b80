/- What the reference answers of two upstream versions or revisions: the order of parts. -/
import Derived.Test.YtchnlfkdgajodaaDoorDPdk
namespace Go.Proofs.YtchnlfkdgajodaaDoor.QD
open Go.RowKit Go.Proofs.YtchnlfkdgajodaaDoorW.PrintWords Go.Proofs.YtchnlfkdgajodaaDoorW.PrintLast Go.Proofs.YtchnlfkdgajodaaDoor.Pk Go.Proofs.YtchnlfkdgajodaaDoor.Giv Go.Proofs.YtchnlfkdgajodaaDoor.Ord
set_option linter.unusedVariables false
set_option linter.unusedSimpArgs false

theorem dOrderInts_f (a b : Int) : spec_orderInts.f a b = some (cI a b) := by
  unfold spec_orderInts.f cI
  by_cases h : a < b
  · rw [if_pos h, if_pos h]
  · rw [if_neg h, if_neg h]
    by_cases h2 : b < a
    · rw [if_pos h2, if_pos h2]
    · rw [if_neg h2, if_neg h2]
theorem isLet_f (c : UInt8) : spec_isLetter.f (c.toNat : Int) = some (Deb.isLet c) := by
  unfold spec_isLetter.f Deb.isLet
  by_cases h1 : (c.toNat : Int) ≥ 97
  · rw [if_pos h1]
    by_cases h2 : (c.toNat : Int) ≤ 122
    · rw [if_pos h2]
      congr 1
      rw [eq_comm, decide_eq_true_iff]
      omega
    · rw [if_neg h2, if_pos (by omega)]
      congr 1
      rw [decide_eq_decide]
      omega
  · rw [if_neg h1]
    by_cases h2 : (c.toNat : Int) ≥ 65
    · rw [if_pos h2]
      congr 1
      rw [decide_eq_decide]
      omega
    · rw [if_neg h2]
      congr 1
      rw [eq_comm, decide_eq_false_iff_not]
      omega
/-- The weight of a byte of a part without digits. -/
def dwB (c : UInt8) : Int := if Rpm.dig c = true then 0 else Deb.wtB c
def dw : Option UInt8 → Int
  | none => 0
  | some c => dwB c
theorem debWeight_ev (l : List UInt8) (i : Nat) : Ev (fun k => spec_debWeight.f k (bs l) (i : Int)) (dw l[i]?) := by
  unfold spec_debWeight.f
  have z : Ev (fun k => spec_debWeight.j0 k (bs l) (i : Int) true) 0 := by
    refine Ev.step (fun k => by rw [spec_debWeight.j0]) ?_
    exact ev_pos rfl (Ev.now _)
  rw [bs_size]
  by_cases h : i < l.length
  · rw [List.getElem?_eq_getElem h]
    have b := bs_bt l i h
    obtain ⟨c, ec⟩ : ∃ c, c = l[i]'h := ⟨_, rfl⟩
    rw [← ec] at b ⊢
    rw [b, isDigit_f]
    refine ev_neg (by omega) (ev_pos (by omega) (ev_pos (by omega) (ev_some ?_)))
    show Ev (fun k => spec_debWeight.j0 k (bs l) (i : Int) (Rpm.dig c)) (dwB c)
    unfold dwB
    cases hd : Rpm.dig c with
    | true => rw [if_pos rfl]; exact z
    | false =>
      rw [if_neg (by simp)]
      have w1 : wrap64 (c.toNat : Int) = (c.toNat : Int) := by unfold wrap64; have := c.toNat_lt; omega
      have w2 : wrap64 ((c.toNat : Int) + 256) = (c.toNat : Int) + 256 := by unfold wrap64; have := c.toNat_lt; omega
      refine Ev.step (fun k => by rw [spec_debWeight.j0, b, isLet_f, bs_size, w1, w2]) ?_
      refine ev_neg (by simp) (ev_pos (by omega) (ev_pos (by omega) ?_))
      unfold Deb.wtB
      by_cases h1 : c.toNat = 126
      · rw [if_pos h1]
        exact ev_pos (by omega) (Ev.now _)
      · rw [if_neg h1]
        refine ev_neg (by omega) (ev_some ?_)
        show Ev (fun _ => if Deb.isLet c = true then some (c.toNat : Int) else some ((c.toNat : Int) + 256)) _
        cases hl : Deb.isLet c with
        | true => exact Ev.now (c.toNat : Int)
        | false => exact Ev.now ((c.toNat : Int) + 256)
  · rw [List.getElem?_eq_none (by omega)]
    exact ev_pos (by omega) z
theorem debRun_loop (l : List UInt8) (hl : l.length < 4611686018427387904) (d : Nat) : ∀ i : Nat, i + d = l.length → Ev (fun k => spec_debRun.l0 k (bs l) (i : Int)) ((i : Int) + (((l.drop i).takeWhile Rpm.dig).length : Int)) := by
  induction d with
  | zero =>
    intro i hi
    refine Ev.step (fun k => by rw [spec_debRun.l0, bs_size]) ?_
    rw [List.drop_of_length_le (by omega), List.takeWhile_nil, List.length_nil, Int.natCast_zero, Int.add_zero]
    exact ev_neg (by omega) (Ev.now _)
  | succ d ih =>
    intro i hi
    have hlt : i < l.length := by omega
    have w := wr i (by omega)
    have nx := ih (i + 1) (by omega)
    refine Ev.step (fun k => by rw [spec_debRun.l0, bs_size, bs_bt l i hlt, isDigit_f, w]) ?_
    refine ev_pos (by omega) (ev_pos (by omega) (ev_some ?_))
    rw [List.drop_eq_getElem_cons hlt]
    cases hd : Rpm.dig (l[i]'hlt) with
    | true =>
      refine ev_pos rfl ?_
      rw [List.takeWhile_cons_of_pos hd, List.length_cons]
      have e : (i : Int) + ((((l.drop (i + 1)).takeWhile Rpm.dig).length + 1 : Nat) : Int) = ((i + 1 : Nat) : Int) + (((l.drop (i + 1)).takeWhile Rpm.dig).length : Int) := by omega
      rw [e]
      exact nx
    | false =>
      rw [List.takeWhile_cons_of_neg (by simp [hd]), List.length_nil, Int.natCast_zero, Int.add_zero]
      exact ev_neg (by simp) (Ev.now _)
theorem debRun_ev (l : List UInt8) (hl : l.length < 4611686018427387904) : Ev (fun k => spec_debRun.f k (bs l)) ((l.takeWhile Rpm.dig).length : Int) := by
  have := debRun_loop l hl l.length 0 (by omega)
  rw [List.drop_zero, Int.natCast_zero, Int.zero_add] at this
  exact this
theorem nd_no {c : UInt8} (h : Rpm.dig c = false) (r : List UInt8) : Deb.nd (c :: r) = c :: Deb.nd r ∧ Deb.nr (c :: r) = Deb.nr r := by
  unfold Deb.nd Deb.nr
  rw [List.takeWhile_cons_of_pos (by simp [h]), List.dropWhile_cons_of_pos (by simp [h])]
  exact ⟨rfl, rfl⟩
theorem nd_yes {c : UInt8} (h : Rpm.dig c = true) (r : List UInt8) : Deb.nd (c :: r) = [] ∧ Deb.nr (c :: r) = c :: r := by
  unfold Deb.nd Deb.nr
  rw [List.takeWhile_cons_of_neg (by simp [h]), List.dropWhile_cons_of_neg (by simp [h])]
  exact ⟨rfl, rfl⟩
/-- A byte ahead that is no digit: its weight is that of what stands ahead of digits. -/
theorem dw_head (l : List UInt8) : dw l.head? = Deb.wt (Deb.nd l).head? := by
  cases l with
  | nil => rfl
  | cons c r =>
    cases h : Rpm.dig c with
    | true =>
      rw [(nd_yes h r).1]
      show dwB c = 0
      unfold dwB
      rw [if_pos h]
    | false =>
      rw [(nd_no h r).1]
      show dwB c = Deb.wtB c
      unfold dwB
      rw [if_neg (by simp [h])]
/-- No digit ahead. -/
def nn (l : List UInt8) : Bool := match l with
  | [] => false
  | c :: _ => !Rpm.dig c
theorem nn_false {l : List UInt8} (h : nn l = false) : Deb.nd l = [] ∧ Deb.nr l = l := by
  cases l with
  | nil => exact ⟨rfl, rfl⟩
  | cons c r => exact nd_yes (by simpa [nn] using h) r
theorem same_head {x y : List UInt8} (hn : nn x = true ∨ nn y = true) (h : Deb.wC (Deb.nd x).head? (Deb.nd y).head? = 0) : ∃ c x' y', Rpm.dig c = false ∧ x = c :: x' ∧ y = c :: y' := by
  have e := Deb.wt_inj (cI_zero.1 h)
  have key : ∀ {u v : List UInt8}, nn u = true → (Deb.nd u).head? = (Deb.nd v).head? → ∃ c x' y', Rpm.dig c = false ∧ u = c :: x' ∧ v = c :: y' := by
    intro u v hu e
    cases u with
    | nil => simp [nn] at hu
    | cons c r =>
      have hc : Rpm.dig c = false := by simpa [nn] using hu
      rw [(nd_no hc r).1] at e
      cases v with
      | nil => exact absurd e (by simp [Deb.nd])
      | cons d q =>
        cases hd : Rpm.dig d with
        | true => rw [(nd_yes hd q).1] at e; exact absurd e (by simp)
        | false =>
          rw [(nd_no hd q).1] at e
          have : c = d := by simpa using e
          subst this
          exact ⟨c, r, q, hc, rfl, rfl⟩
  rcases hn with hn | hn
  · exact key hn e
  · obtain ⟨c, x', y', hc, e1, e2⟩ := key hn e.symm
    exact ⟨c, y', x', hc, e2, e1⟩
theorem deb_same {c : UInt8} (h : Rpm.dig c = false) (x y : List UInt8) : Deb.debC (c :: x) (c :: y) = Deb.debC x y := by
  rw [Deb.debC_step, Deb.debC_step x y]
  have e : Deb.ndC (Deb.nd (c :: x)) (Deb.nd (c :: y)) = Deb.ndC (Deb.nd x) (Deb.nd y) := by
    rw [(nd_no h x).1, (nd_no h y).1, Deb.ndC_step]
    have z : Deb.wC (c :: Deb.nd x).head? (c :: Deb.nd y).head? = 0 := Deb.wC_cmp.self _
    rw [if_pos z]
    rfl
  have d : ∀ l : List UInt8, Deb.dg (c :: l) = Deb.dg l ∧ Deb.rest (c :: l) = Deb.rest l := fun l => by
    unfold Deb.dg Deb.rest
    rw [(nd_no h l).2]
    exact ⟨rfl, rfl⟩
  rw [e, (d x).1, (d x).2, (d y).1, (d y).2]
theorem deb_diff {x y : List UInt8} (h : ¬ Deb.wC (Deb.nd x).head? (Deb.nd y).head? = 0) : Deb.debC x y = Deb.wC (Deb.nd x).head? (Deb.nd y).head? := by
  have e : Deb.ndC (Deb.nd x) (Deb.nd y) = Deb.wC (Deb.nd x).head? (Deb.nd y).head? := by rw [Deb.ndC_step, if_neg h]
  rw [Deb.debC_step, e, if_neg h]
theorem deb_num {x y : List UInt8} (hx : nn x = false) (hy : nn y = false) : Deb.debC x y = if cI (Num.dec (x.takeWhile Rpm.dig)) (Num.dec (y.takeWhile Rpm.dig)) = 0 then Deb.debC (x.dropWhile Rpm.dig) (y.dropWhile Rpm.dig) else cI (Num.dec (x.takeWhile Rpm.dig)) (Num.dec (y.takeWhile Rpm.dig)) := by
  have ax := nn_false hx
  have ay := nn_false hy
  rw [Deb.debC_step, ax.1, ay.1, if_pos Deb.ndC_nil]
  unfold Deb.dg Deb.rest
  rw [ax.2, ay.2]
theorem len_tw (l : List UInt8) : (l.takeWhile Rpm.dig).length + (l.dropWhile Rpm.dig).length = l.length := by
  rw [← List.length_append, List.takeWhile_append_dropWhile]
/-- The inner loop: what stands ahead of digits. -/
theorem debParts_in (a b : List UInt8) (ha : a.length < 4611686018427387904) (hb : b.length < 4611686018427387904) (h0 : 0 < a.length + b.length) (ih : ∀ u v : List UInt8, u.length + v.length < a.length + b.length → u.length < 4611686018427387904 → v.length < 4611686018427387904 → Ev (fun k => spec_debParts.l0 k (bs u) (bs v)) (Deb.debC u v)) (d : Nat) : ∀ i : Nat, i ≤ a.length → i ≤ b.length → i + d = a.length → Ev (fun k => spec_debParts.l1 k (bs a) (bs b) (i : Int)) (Deb.debC (a.drop i) (b.drop i)) := by
  have fin : ∀ i : Nat, i ≤ a.length → i ≤ b.length → nn (a.drop i) = false → nn (b.drop i) = false → Ev (fun k => spec_debParts.j3 k (bs a) (bs b) (i : Int) false) (Deb.debC (a.drop i) (b.drop i)) := by
    intro i hia hib hx hy
    have ea : (bs a).extract ((i : Int)).toNat (bs a).size = bs (a.drop i) := by rw [Int.toNat_natCast, bs_extAll]
    have eb : (bs b).extract ((i : Int)).toNat (bs b).size = bs (b.drop i) := by rw [Int.toNat_natCast, bs_extAll]
    have sa : (bs a).size - ((i : Int)).toNat = (bs (a.drop i)).size := by rw [Int.toNat_natCast, bs_size, bs_size, List.length_drop]
    have sb : (bs b).size - ((i : Int)).toNat = (bs (b.drop i)).size := by rw [Int.toNat_natCast, bs_size, bs_size, List.length_drop]
    have la : (a.drop i).length ≤ a.length := by rw [List.length_drop]; omega
    have lb : (b.drop i).length ≤ b.length := by rw [List.length_drop]; omega
    have lsum : a.drop i = [] → b.drop i = [] → 0 < i := fun e1 e2 => by
      have h1 := congrArg List.length e1
      have h2 := congrArg List.length e2
      rw [List.length_drop, List.length_nil] at h1 h2
      omega
    have lda : (a.drop i).length + i = a.length := by rw [List.length_drop]; omega
    have ldb : (b.drop i).length + i = b.length := by rw [List.length_drop]; omega
    refine Ev.step (fun k => by rw [spec_debParts.j3, ea, eb, sa, sb]) ?_
    rw [bs_size, bs_size]
    generalize a.drop i = x at *
    generalize b.drop i = y at *
    refine ev_neg (by simp) (ev_pos (by omega) (ev_pos (by omega) (ev_pos (by omega) ((debRun_ev x (by omega)).bind ((debRun_ev y (by omega)).bind ?_)))))
    have tx := tw_le Rpm.dig x
    have ty := tw_le Rpm.dig y
    rw [bs_size, bs_size]
    refine ev_pos (by omega) (ev_pos (by omega) (ev_pos (by omega) (ev_pos (by omega) ?_)))
    have on := orderNumbers_ev (bs (x.takeWhile Rpm.dig)) (bs (y.takeWhile Rpm.dig)) (by rw [bs_size]; omega) (by rw [bs_size]; omega)
    rw [bs_toList, bs_toList, Seg.numC_dec List.all_takeWhile List.all_takeWhile] at on
    rw [Int.toNat_natCast, Int.toNat_natCast, bs_extHead, bs_extHead, take_tw, take_tw]
    refine on.bind ?_
    rw [deb_num hx hy]
    by_cases hz : cI (Num.dec (x.takeWhile Rpm.dig)) (Num.dec (y.takeWhile Rpm.dig)) = 0
    · rw [if_pos hz]
      refine ev_pos hz ?_
      have e1 : (bs x).extract (x.takeWhile Rpm.dig).length x.length = bs (x.dropWhile Rpm.dig) := by
        have := bs_extAll x (x.takeWhile Rpm.dig).length
        rw [bs_size] at this
        rw [this, drop_tw]
      have e2 : (bs y).extract (y.takeWhile Rpm.dig).length y.length = bs (y.dropWhile Rpm.dig) := by
        have := bs_extAll y (y.takeWhile Rpm.dig).length
        rw [bs_size] at this
        rw [this, drop_tw]
      rw [e1, e2]
      have dx := len_tw x
      have dy := len_tw y
      refine ih _ _ ?_ (by omega) (by omega)
      by_cases hxe : x = []
      · by_cases hye : y = []
        · have := lsum hxe hye
          omega
        · have : 0 < (y.takeWhile Rpm.dig).length := by
            cases y with
            | nil => exact absurd rfl hye
            | cons c r =>
              rw [List.takeWhile_cons_of_pos (by simpa [nn] using hy)]
              simp
          omega
      · have : 0 < (x.takeWhile Rpm.dig).length := by
          cases x with
          | nil => exact absurd rfl hxe
          | cons c r =>
            rw [List.takeWhile_cons_of_pos (by simpa [nn] using hx)]
            simp
        omega
    · rw [if_neg hz]
      exact ev_neg hz (Ev.now _)
  have hd : ∀ (l : List UInt8) (i : Nat), l[i]? = (l.drop i).head? := fun l i => by rw [List.head?_drop]
  have more : ∀ i : Nat, i ≤ a.length → i ≤ b.length → (nn (a.drop i) = true ∨ nn (b.drop i) = true) → (i + 1 ≤ a.length → i + 1 ≤ b.length → Ev (fun k => spec_debParts.l1 k (bs a) (bs b) ((i + 1 : Nat) : Int)) (Deb.debC (a.drop (i + 1)) (b.drop (i + 1)))) → Ev (fun k => spec_debParts.j3 k (bs a) (bs b) (i : Int) true) (Deb.debC (a.drop i) (b.drop i)) := by
    intro i hia hib hn nx
    have w := wr i (by omega)
    have wa := debWeight_ev a i
    have wb := debWeight_ev b i
    rw [hd, dw_head] at wa wb
    refine Ev.step (fun k => by rw [spec_debParts.j3, w]) ?_
    refine ev_pos rfl (wa.bind (wb.bind ?_))
    rw [dOrderInts_f]
    refine ev_some ?_
    show Ev (fun k => if Deb.wC (Deb.nd (a.drop i)).head? (Deb.nd (b.drop i)).head? = 0 then spec_debParts.l1 k (bs a) (bs b) ((i + 1 : Nat) : Int) else some (Deb.wC (Deb.nd (a.drop i)).head? (Deb.nd (b.drop i)).head?)) _
    by_cases hz : Deb.wC (Deb.nd (a.drop i)).head? (Deb.nd (b.drop i)).head? = 0
    · refine ev_pos hz ?_
      obtain ⟨c, x', y', hc, e1, e2⟩ := same_head hn hz
      have l1 := congrArg List.length e1
      have l2 := congrArg List.length e2
      rw [List.length_drop, List.length_cons] at l1 l2
      have t1 : a.drop (i + 1) = x' := by rw [← List.drop_drop, e1]; rfl
      have t2 : b.drop (i + 1) = y' := by rw [← List.drop_drop, e2]; rfl
      have := nx (by omega) (by omega)
      rw [e1, e2, deb_same hc, ← t1, ← t2]
      exact this
    · rw [deb_diff hz]
      exact ev_neg hz (Ev.now _)
  have nnat : ∀ (l : List UInt8) (i : Nat) (h : i < l.length), nn (l.drop i) = !Rpm.dig (l[i]'h) := fun l i h => by
    rw [List.drop_eq_getElem_cons h]
    rfl
  have nnend : ∀ (l : List UInt8) (i : Nat), ¬ i < l.length → nn (l.drop i) = false := fun l i h => by
    rw [List.drop_of_length_le (by omega)]
    rfl
  induction d with
  | zero =>
    intro i hia hib hid
    refine Ev.step (fun k => by rw [spec_debParts.l1, bs_size, bs_size]) ?_
    refine ev_neg (by omega) ?_
    have hx := nnend a i (by omega)
    by_cases hlb : i < b.length
    · rw [bs_bt b i hlb, isDigit_f]
      refine ev_pos (by omega) (ev_pos (by omega) (ev_some ?_))
      rw [← nnat b i hlb]
      cases hy : nn (b.drop i) with
      | true => exact more i hia hib (.inr hy) (fun h _ => absurd h (by omega))
      | false => exact fin i hia hib hx hy
    · exact ev_neg (by omega) (fin i hia hib hx (nnend b i hlb))
  | succ d ihd =>
    intro i hia hib hid
    have hla : i < a.length := by omega
    refine Ev.step (fun k => by rw [spec_debParts.l1, bs_size, bs_size, bs_bt a i hla, isDigit_f]) ?_
    refine ev_pos (by omega) (ev_pos (by omega) (ev_some ?_))
    have nx : i + 1 ≤ a.length → i + 1 ≤ b.length → Ev (fun k => spec_debParts.l1 k (bs a) (bs b) ((i + 1 : Nat) : Int)) (Deb.debC (a.drop (i + 1)) (b.drop (i + 1))) := fun h1 h2 => ihd (i + 1) h1 h2 (by omega)
    have na := nnat a i hla
    cases hda : Rpm.dig (a[i]'hla) with
    | true =>
      rw [hda] at na
      have hx : nn (a.drop i) = false := na
      refine ev_pos rfl ?_
      by_cases hlb : i < b.length
      · rw [bs_bt b i hlb, isDigit_f]
        refine ev_pos (by omega) (ev_some ?_)
        rw [← nnat b i hlb]
        cases hy : nn (b.drop i) with
        | true => exact more i hia hib (.inr hy) nx
        | false => exact fin i hia hib hx hy
      · exact ev_neg (by omega) (fin i hia hib hx (nnend b i hlb))
    | false =>
      rw [hda] at na
      exact ev_neg (by simp) (more i hia hib (.inl na) nx)
theorem debParts_l0 (n : Nat) : ∀ a b : List UInt8, a.length + b.length ≤ n → a.length < 4611686018427387904 → b.length < 4611686018427387904 → Ev (fun k => spec_debParts.l0 k (bs a) (bs b)) (Deb.debC a b) := by
  induction n with
  | zero =>
    intro a b h _ _
    obtain rfl : a = [] := List.length_eq_zero_iff.1 (by omega)
    obtain rfl : b = [] := List.length_eq_zero_iff.1 (by omega)
    refine Ev.step (fun k => by rw [spec_debParts.l0, bs_size]) ?_
    refine ev_neg (by simp) (Ev.step (fun k => by rw [spec_debParts.j1]) ?_)
    exact ev_neg (by simp) (Ev.now _)
  | succ n ih =>
    intro a b h ha hb
    refine Ev.step (fun k => by rw [spec_debParts.l0, bs_size, bs_size]) ?_
    have go : 0 < a.length + b.length → Ev (fun k => spec_debParts.j1 k (bs a) (bs b) true) (Deb.debC a b) := fun h0 => by
      refine Ev.step (fun k => by rw [spec_debParts.j1]) ?_
      have := debParts_in a b ha hb h0 (fun u v huv hu hv => ih u v (by omega) hu hv) a.length 0 (Nat.zero_le _) (Nat.zero_le _) (by omega)
      exact ev_pos rfl this
    by_cases h1 : 0 < a.length
    · exact ev_pos (by omega) (go (by omega))
    · refine ev_neg (by omega) ?_
      by_cases h2 : 0 < b.length
      · rw [decide_eq_true (show (b.length : Int) > 0 by omega)]
        exact go (by omega)
      · obtain rfl : a = [] := List.length_eq_zero_iff.1 (by omega)
        obtain rfl : b = [] := List.length_eq_zero_iff.1 (by omega)
        rw [decide_eq_false (show ¬ ((([] : List UInt8).length : Int) > 0) by simp)]
        refine Ev.step (fun k => by rw [spec_debParts.j1]) ?_
        exact ev_neg (by simp) (Ev.now _)
theorem debParts_ev (a b : List UInt8) (ha : a.length < 4611686018427387904) (hb : b.length < 4611686018427387904) : Ev (fun k => spec_debParts.f k (bs a) (bs b)) (Deb.debC a b) := debParts_l0 (a.length + b.length) a b (Nat.le_refl _) ha hb
end Go.Proofs.YtchnlfkdgajodaaDoor.QD
