/- The statement FnRedHatJoined: a version of an epoch, a version and a release compares by the first, then by the second, then by the third, for all texts.
   No condition beyond those that the statement itself states (its card ties the listed variable to the program's text). -/
import Derived.Test.YtojabknjniihmabDoorEPshort
import Derived.Test.YtojabknjniihmabDoorEPplain
import Derived.Test.YtojabknjniihmabDoorEPdigits
import Derived.Test.YtojabknjniihmabDoorEPfirst
import Derived.Test.YtojabknjniihmabDoorEPimp
import Derived.Test.YtojabknjniihmabDoorEPparse
namespace Go.Proofs.YtojabknjniihmabDoor.Pure
open Go.RowKit Go.Proofs.YtojabknjniihmabDoor.QE Go.Proofs.YtojabknjniihmabDoorW.PrintWords Go.Proofs.YtojabknjniihmabDoorW.PrintLast Go.Proofs.YtojabknjniihmabDoor.Pk Go.Proofs.YtojabknjniihmabDoor.Giv Go.Proofs.YtojabknjniihmabDoor.Ord
theorem no_hyphen {l : List UInt8} (h : plainB [46, 95, 43, 126, 94] l = true) : l.all (Red.notC 45) = true := by
  unfold plainB at h
  rw [Bool.and_eq_true, List.all_eq_true] at h
  rw [List.all_eq_true]
  intro x hx
  have := h.1 x hx
  unfold Red.notC
  by_cases e : x = 45
  · rw [e] at this
    exact absurd this (by decide)
  · simp [e]
theorem FnRedHatJoined : laws_FnRedHatJoined.Pure := by
  intro e f v w p q _ _ _ _ _ _
  suffices h : Ev (fun k => laws_FnRedHatJoined.f k e f v w p q) true from h.rounds
  have out : Ev (fun k => laws_FnRedHatJoined.j0 k e f v w p q true) true := by
    refine Ev.step (fun k => by rw [laws_FnRedHatJoined.j0]) ?_
    exact ev_pos rfl (Ev.now _)
  have out1 : Ev (fun k => laws_FnRedHatJoined.j1 k e f v w p q true) true := by
    refine Ev.step (fun k => by rw [laws_FnRedHatJoined.j1]) ?_
    exact ev_pos rfl (Ev.now _)
  unfold laws_FnRedHatJoined.f
  by_cases z1 : (e.size : Int) > 2147483647
  · exact ev_pos z1 out
  refine ev_neg z1 ?_
  by_cases z2 : (f.size : Int) > 2147483647
  · exact ev_pos z2 out
  refine ev_neg z2 ?_
  by_cases z3 : (v.size : Int) > 2147483647
  · exact ev_pos z3 out
  refine ev_neg z3 ?_
  by_cases z4 : (w.size : Int) > 2147483647
  · exact ev_pos z4 out
  refine ev_neg z4 ?_
  by_cases z5 : (p.size : Int) > 2147483647
  · exact ev_pos z5 out
  refine ev_neg z5 ?_
  cases hd : decide ((q.size : Int) > 2147483647) with
  | true => exact out
  | false =>
    refine Ev.step (fun k => by rw [laws_FnRedHatJoined.j0]) ?_
    refine ev_neg (by simp) ?_
    refine (short_ev [e, f, v, w, p, q] (by simp)).bind ?_
    cases hb : shortB [e, f, v, w, p, q] with
    | false => exact ev_neg (by simp) out1
    | true =>
      have h1 := short_sizes hb e (by simp)
      have h2 := short_sizes hb f (by simp)
      have h3 := short_sizes hb v (by simp)
      have h4 := short_sizes hb w (by simp)
      have h5 := short_sizes hb p (by simp)
      have h6 := short_sizes hb q (by simp)
      refine ev_pos rfl ?_
      rw [← len_toList] at h1 h2 h3 h4 h5 h6
      rw [bs_of e, bs_of f, bs_of v, bs_of w, bs_of p, bs_of q] at out1 ⊢
      clear hb hd out z1 z2 z3 z4 z5
      generalize e.toList = e at *
      generalize f.toList = f at *
      generalize v.toList = v at *
      generalize w.toList = w at *
      generalize p.toList = p at *
      generalize q.toList = q at *
      refine (digits_ev e (by omega)).bind ?_
      cases d1 : (e.all Rpm.dig && !e.isEmpty) with
      | false => exact ev_neg (by simp) out1
      | true =>
      refine ev_pos rfl ?_
      refine (digits_ev f (by omega)).bind ?_
      cases d2 : (f.all Rpm.dig && !f.isEmpty) with
      | false => exact ev_neg (by simp) out1
      | true =>
      refine ev_pos rfl ?_
      refine (plain_ev [46, 95, 43, 126, 94] v (by simp) (by omega)).bind ?_
      cases p1 : plainB [46, 95, 43, 126, 94] v with
      | false => exact ev_neg (by simp) out1
      | true =>
      refine ev_pos rfl ?_
      refine (plain_ev [46, 95, 43, 126, 94] w (by simp) (by omega)).bind ?_
      cases p2 : plainB [46, 95, 43, 126, 94] w with
      | false => exact ev_neg (by simp) out1
      | true =>
      refine ev_pos rfl ?_
      refine (plain_ev [46, 95, 43, 126, 94] p (by simp) (by omega)).bind ?_
      cases p3 : plainB [46, 95, 43, 126, 94] p with
      | false => exact ev_neg (by simp) out1
      | true =>
      refine ev_pos rfl ?_
      refine (plain_ev [46, 95, 43, 126, 94] q (by simp) (by omega)).bind ?_
      cases p4 : plainB [46, 95, 43, 126, 94] q with
      | false => exact out1
      | true =>
      refine Ev.step (fun k => by rw [laws_FnRedHatJoined.j1]) ?_
      refine ev_neg (by simp) ?_
      have j : ∀ a b c : List UInt8, (((bs a ++ (⟨#[58]⟩ : ByteArray)) ++ bs b) ++ (⟨#[45]⟩ : ByteArray)) ++ bs c = bs (a ++ 58 :: (b ++ 45 :: c)) := by
        intro a b c
        show (((bs a ++ bs [58]) ++ bs b) ++ bs [45]) ++ bs c = _
        rw [bs_append, bs_append, bs_append, bs_append]
        congr 1
        simp
      have z1 : ∀ a : List UInt8, (bs a ++ (⟨#[58]⟩ : ByteArray)).size = a.length + 1 := by
        intro a
        show (bs a ++ bs [58]).size = _
        rw [bs_append, bs_size]
        simp
      have z2 : ∀ a b : List UInt8, ((bs a ++ (⟨#[58]⟩ : ByteArray)) ++ bs b).size = a.length + 1 + b.length := by
        intro a b
        show ((bs a ++ bs [58]) ++ bs b).size = _
        rw [bs_append, bs_append, bs_size]
        simp
        omega
      have z3 : ∀ a b : List UInt8, (((bs a ++ (⟨#[58]⟩ : ByteArray)) ++ bs b) ++ (⟨#[45]⟩ : ByteArray)).size = a.length + 1 + b.length + 1 := by
        intro a b
        show (((bs a ++ bs [58]) ++ bs b) ++ bs [45]).size = _
        rw [bs_append, bs_append, bs_append, bs_size]
        simp
        omega
      have r1 : ∀ a : List UInt8, (⟨#[45]⟩ : ByteArray) ++ bs a = bs (45 :: a) := fun a => bs_append [45] a
      rw [z1, z1, z2, z2, z3, z3, j, j, bs_size, bs_size, bs_size, bs_size, bs_size, bs_size]
      refine ev_pos (by omega) (ev_pos (by omega) (ev_pos (by omega) (ev_pos (by omega) (ev_pos (by omega) (ev_pos (by omega) (ev_pos (by omega) (ev_pos (by omega) ?_)))))))
      rw [implCompare _ _ (by simp; omega) (by simp; omega)]
      refine ev_some ?_
      refine (implParse_ev (e ++ 58 :: (v ++ 45 :: p)) (by simp; omega)).bind ?_
      refine ev_pos rfl ?_
      rw [r1, r1, implParts e f (by omega) (by omega), implParts v w (by omega) (by omega), implParts (45 :: p) (45 :: q) (by simp; omega) (by simp; omega)]
      refine ev_some (ev_some (ev_pos (by omega) (ev_pos (by omega) (ev_some ?_))))
      refine (first_ev _ (by simp)).bind ?_
      rw [Bool.and_eq_true] at d1 d2
      have e1 : e ≠ [] := by
        intro h
        rw [h] at d1
        exact absurd d1.2 (by decide)
      have e2 : f ≠ [] := by
        intro h
        rw [h] at d2
        exact absurd d2.2 (by decide)
      have pe := Red.parse_joined e v p e1 d1.1 (no_hyphen p1)
      have pf := Red.parse_joined f w q e2 d2.1 (no_hyphen p2)
      have cc : Red.cmp (e ++ 58 :: (v ++ 45 :: p)) (f ++ 58 :: (w ++ 45 :: q)) = firstL [Rpm.parts e f, Rpm.parts v w, Rpm.parts (45 :: p) (45 :: q)] := by
        unfold Red.cmp
        rw [pe, pf]
        unfold Red.vc
        simp only [firstL]
        split
        · split
          · split
            · assumption
            · rfl
          · rfl
        · rfl
      refine ev_pos cc ?_
      rw [pe]
      simp only [bs_toList, beq_self_eq_true]
      exact Ev.now _
end Go.Proofs.YtojabknjniihmabDoor.Pure
