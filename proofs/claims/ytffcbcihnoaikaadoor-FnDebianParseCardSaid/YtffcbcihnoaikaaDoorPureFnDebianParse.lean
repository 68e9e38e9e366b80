/- The statement FnDebianParse: into which parts a Debian version falls, and which texts are none.
   No condition beyond those that the statement itself states (its card ties the listed variables to the program's text). -/
import Derived.Test.YtffcbcihnoaikaaDoorZES
import Derived.Test.YtffcbcihnoaikaaDoorGivDq
import Derived.Test.YtffcbcihnoaikaaDoorQEx
namespace Go.Proofs.YtffcbcihnoaikaaDoor.Pure
open Go.RowKit Go.Proofs.YtffcbcihnoaikaaDoor.QE Go.Proofs.YtffcbcihnoaikaaDoorW.PrintWords Go.Proofs.YtffcbcihnoaikaaDoorW.PrintLast Go.Proofs.YtffcbcihnoaikaaDoor.Pk Go.Proofs.YtffcbcihnoaikaaDoor.Giv Go.Proofs.YtffcbcihnoaikaaDoor.Ord
set_option linter.unusedVariables false
set_option linter.unusedSimpArgs false
/-- The last place of a byte in what begins a text. -/
def lastP (c : UInt8) (l : List UInt8) : Int := match Deb.cutLast c l with | some p => (p.1.length : Int) | none => -1
theorem lastP_snoc (c x : UInt8) (l : List UInt8) : lastP c (l ++ [x]) = if x = c then (l.length : Int) else lastP c l := by
  unfold lastP
  by_cases h : x = c
  · rw [if_pos h, h, Deb.cutLast_of (by rfl)]
  · rw [if_neg h]
    cases hc : Deb.cutLast c l with
    | none =>
      have := (Deb.cutLast_none c l).1 hc
      rw [(Deb.cutLast_none c (l ++ [x])).2 (by rw [List.any_append, this]; simp [h])]
    | some p =>
      obtain ⟨u, v⟩ := p
      obtain ⟨e, hv⟩ := Deb.cutLast_some c hc
      have : Deb.cutLast c (l ++ [x]) = some (u, v ++ [x]) := by
        rw [e, List.append_assoc, List.cons_append]
        exact Deb.cutLast_of (by rw [List.any_append, hv]; simp [h])
      rw [this]
theorem lastOf_loop (l : List UInt8) (c : UInt8) (hl : l.length < 4611686018427387904) (d : Nat) : ∀ i : Nat, i + d = l.length → Ev (fun k => spec_lastOf.l0 k (bs l) (c.toNat : Int) (lastP c (l.take i)) (i : Int)) (lastP c l) := by
  induction d with
  | zero =>
    intro i hi
    refine Ev.step (fun k => by rw [spec_lastOf.l0, bs_size]) ?_
    rw [List.take_of_length_le (by omega)]
    exact ev_neg (by omega) (Ev.now _)
  | succ d ih =>
    intro i hi
    have hlt : i < l.length := by omega
    have w := wr i (by omega)
    have nx := ih (i + 1) (by omega)
    rw [List.take_succ_eq_append_getElem hlt, lastP_snoc] at nx
    refine Ev.step (fun k => by rw [spec_lastOf.l0, bs_size, bs_bt l i hlt, w]) ?_
    refine ev_pos (by omega) (ev_pos (by omega) ?_)
    by_cases h : l[i]'hlt = c
    · rw [if_pos h, List.length_take, Nat.min_eq_left (by omega)] at nx
      exact ev_pos (by rw [h]) nx
    · rw [if_neg h] at nx
      exact ev_neg (fun e => h (UInt8.toNat_inj.1 (by omega))) nx
theorem lastOf_ev (l : List UInt8) (c : UInt8) (hl : l.length < 4611686018427387904) : Ev (fun k => spec_lastOf.f k (bs l) (c.toNat : Int)) (lastP c l) := lastOf_loop l c hl l.length 0 (by omega)
theorem place_up (c : UInt8) (l : List UInt8) (h : (l.any (fun x => x == c)) = true) : placeOf (fun x => x == c) l = ((Cut.upTo c l).length : Int) := QC.sp_place c l h
/-- What a text falls into behind its epoch, as the reference reads it. -/
theorem behind_ev {α : Type} (t : List UInt8) (ht : t.length ≤ 40000) (G : ByteArray → ByteArray → Option α) (V : α) (hV : G (bs (Deb.urv t).1) (bs (Deb.urv t).2) = some V) :
    Ev (fun k => (spec_lastOf.f k (bs t) 45).bind fun t141 => (if t141 ≥ 0 then (if 0 ≤ t141 then (if t141 ≤ ((bs t).size : Int) then (if 0 ≤ (wrap64 (t141 + 1)) then (if (wrap64 (t141 + 1)) ≤ ((bs t).size : Int) then G ((bs t).extract 0 (t141 : Int).toNat) ((bs t).extract ((wrap64 (t141 + 1)) : Int).toNat (bs t).size) else none) else none) else none) else none) else G (bs t) (⟨#[48]⟩ : ByteArray))) V := by
  refine (lastOf_ev t 45 (by omega)).bind ?_
  unfold Deb.urv at hV
  unfold lastP
  cases hc : Deb.cutLast 45 t with
  | none =>
    rw [hc] at hV
    have hV : G (bs t) (⟨#[48]⟩ : ByteArray) = some V := hV
    show Ev (fun k => if (-1 : Int) ≥ 0 then _ else G (bs t) (⟨#[48]⟩ : ByteArray)) V
    refine ev_neg (by decide) ?_
    rw [hV]
    exact Ev.now _
  | some p =>
    obtain ⟨u, v⟩ := p
    rw [hc] at hV
    have hV : G (bs u) (bs v) = some V := hV
    obtain ⟨e, _⟩ := Deb.cutLast_some 45 hc
    have hl : t.length = u.length + (v.length + 1) := by rw [e, List.length_append, List.length_cons]
    have w : wrap64 ((u.length : Int) + 1) = ((u.length + 1 : Nat) : Int) := wr u.length (by omega)
    have e1 : (bs t).extract 0 u.length = bs u := by rw [bs_extHead, e, List.take_left' rfl]
    have e2 : (bs t).extract (u.length + 1) (bs t).size = bs v := by
      rw [bs_extAll, e, ← List.drop_drop, List.drop_left' rfl]
      rfl
    show Ev (fun k => if (u.length : Int) ≥ 0 then (if 0 ≤ (u.length : Int) then (if (u.length : Int) ≤ ((bs t).size : Int) then (if 0 ≤ (wrap64 ((u.length : Int) + 1)) then (if (wrap64 ((u.length : Int) + 1)) ≤ ((bs t).size : Int) then G ((bs t).extract 0 ((u.length : Int)).toNat) ((bs t).extract ((wrap64 ((u.length : Int) + 1)) : Int).toNat (bs t).size) else none) else none) else none) else none) else G (bs t) (⟨#[48]⟩ : ByteArray)) V
    rw [w, Int.toNat_natCast, Int.toNat_natCast, e1, e2, bs_size]
    refine ev_pos (by omega) (ev_pos (by omega) (ev_pos (by omega) (ev_pos (by omega) (ev_pos (by omega) ?_))))
    rw [hV]
    exact Ev.now _
/-- What the reference answers of a version. -/
theorem specParse_ev (l : List UInt8) (hl : l.length ≤ 40000) : Ev (fun k => spec_DebianParse.f k (bs l)) (match dvL l with | some p => ((told p.1).1, (told p.1).2, bs p.2.1, bs p.2.2, true) | none => (false, ⟨#[]⟩, ⟨#[]⟩, ⟨#[]⟩, false)) := by
  have tl := Deb.dtr_len l
  unfold spec_DebianParse.f
  refine (debTrim_ev l (by omega)).bind ?_
  rw [dtrim_dtr]
  unfold dvL Deb.dvp
  generalize Deb.dtr l = t at *
  have ix := indexOf_ev (bs t) 58 (by rw [bs_size]; omega)
  rw [bs_toList] at ix
  refine ix.bind ?_
  cases h58 : t.any (fun x => x == 58) with
  | false =>
    have hp : placeOf (fun x => x == 58) t = -1 := by
      unfold placeOf
      rw [h58]
      rfl
    rw [hp, if_neg (by simp)]
    refine ev_neg (by decide) ?_
    have t0 : told 0 = (false, (⟨#[]⟩ : ByteArray)) := by
      unfold told
      rw [show (0 : Int).natAbs = 0 from rfl, Lb.mag_zero]
      rfl
    have b := behind_ev t (by omega) (fun x y => some ((false : Bool), (⟨#[]⟩ : ByteArray), x, y, true)) _ rfl
    show Ev _ ((told 0).1, (told 0).2, bs (Deb.urv t).1, bs (Deb.urv t).2, true)
    rw [t0]
    exact b
  | true =>
    have up := Cut.cutAt_yes 58 t h58
    rw [place_up 58 t h58, if_pos rfl]
    have e1 : (bs t).extract 0 (Cut.upTo 58 t).length = bs (Cut.upTo 58 t) := by rw [bs_extHead, up.2.2]
    have e2 : (bs t).extract ((Cut.upTo 58 t).length + 1) (bs t).size = bs (t.drop ((Cut.upTo 58 t).length + 1)) := bs_extAll _ _
    have e3 : (bs t).size - ((Cut.upTo 58 t).length + 1) = (bs (t.drop ((Cut.upTo 58 t).length + 1))).size := by rw [bs_size, bs_size, List.length_drop]
    have w : wrap64 (((Cut.upTo 58 t).length : Int) + 1) = (((Cut.upTo 58 t).length + 1 : Nat) : Int) := wr _ (by omega)
    have kl := up.2.1
    have ul : (Cut.upTo 58 t).length ≤ 40000 := by omega
    have rl : (t.drop ((Cut.upTo 58 t).length + 1)).length ≤ 40000 := by rw [List.length_drop]; omega
    have num := specNumber_ev (bs (Cut.upTo 58 t)) (by rw [bs_size]; exact ul)
    rw [bs_toList] at num
    rw [w, Int.toNat_natCast, Int.toNat_natCast, e1, e2, e3]
    generalize Cut.upTo 58 t = up' at *
    generalize t.drop (up'.length + 1) = rs at *
    refine ev_pos (by omega) (ev_pos (by omega) (ev_pos (by rw [bs_size]; omega) (num.bind ?_)))
    cases hp : Num.parse up' with
    | none => exact ev_neg (by simp) (Ev.now _)
    | some z =>
      refine ev_pos rfl (ev_pos (by omega) (ev_pos (by rw [bs_size]; omega) ?_))
      exact behind_ev rs rl (fun x y => some ((told z).1, (told z).2, x, y, true)) _ rfl
theorem FnDebianParse : laws_FnDebianParse.Pure := by
  intro a0 h0
  rw [bs_of a0] at *
  rw [bs_size] at h0
  generalize a0.toList = a at *
  refine Ev.rounds (g := fun k => laws_FnDebianParse.f k (bs a)) ?_
  unfold laws_FnDebianParse.f
  have skip : ∀ x0, Ev (fun k => laws_FnDebianParse.j0 k x0 true) true := fun x0 => by
    refine Ev.step (fun k => by rw [laws_FnDebianParse.j0]) ?_
    exact ev_pos rfl (Ev.now _)
  rw [bs_size]
  by_cases g0 : (a.length : Int) > 2147483647
  · exact ev_pos g0 (Ev.now _)
  · refine ev_neg g0 ((short_ev [bs a] (by simp)).bind ?_)
    cases hs : shortB [bs a] with
    | false => exact ev_neg (by simp) (skip _)
    | true =>
      have z0 := short_sizes hs (bs a) (by simp)
      rw [bs_size] at z0
      refine ev_pos rfl ((known_ev a (by omega)).bind ?_)
      cases ka : knownB a with
      | false => exact skip _
      | true =>
        have oa := knownB_okB ka (by omega)
        have sp := specParse_ev a (by omega)
        have ip : Giv.impl_DebianParse.f (bs a) = some (match dvL a with | some p => ((told p.1).1, (told p.1).2, bs p.2.1, bs p.2.2, true) | none => (false, ⟨#[]⟩, ⟨#[]⟩, ⟨#[]⟩, false)) := by
          unfold Giv.impl_DebianParse.f
          rw [bs_toList, if_pos oa]
          cases dvL a <;> rfl
        refine Ev.step (fun k => by rw [laws_FnDebianParse.j0, ip]) ?_
        refine ev_neg (by simp) (ev_some (sp.bind ?_))
        generalize (match dvL a with | some p => ((told p.1).1, (told p.1).2, bs p.2.1, bs p.2.2, true) | none => (false, (⟨#[]⟩ : ByteArray), (⟨#[]⟩ : ByteArray), (⟨#[]⟩ : ByteArray), false)) = V
        obtain ⟨v1, v2, v3, v4, v5⟩ := V
        refine ev_pos (by simp) ?_
        have : ((v1 == v1 && (v2.toList == v2.toList)) && (v3.toList == v3.toList && (v4.toList == v4.toList))) = true := by simp
        show Ev (fun _ => some ((v1 == v1 && (v2.toList == v2.toList)) && (v3.toList == v3.toList && (v4.toList == v4.toList)))) true
        rw [this]
        exact Ev.now _
end Go.Proofs.YtffcbcihnoaikaaDoor.Pure
