/- The statement FnRedHatBehind: behind a plain part a tilde makes it smaller and a caret greater, but smaller than what goes on, for every pair of texts.
   No condition beyond those that the statement itself states. -/
import Derived.Test.YtojabknjniihmaaRPshort
import Derived.Test.YtojabknjniihmaaRPplain
import Derived.Test.YtojabknjniihmaaRpmB
namespace Go.Proofs.Ytojabknjniihmaa.QR
open Go.RowKit Go.Proofs.YtojabknjniihmaaW.PrintWords Go.Proofs.YtojabknjniihmaaW.PrintLast Go.Proofs.Ytojabknjniihmaa.Pk Go.Proofs.Ytojabknjniihmaa.Giv Go.Proofs.Ytojabknjniihmaa.Ord
theorem implPartsB (a b : List UInt8) (ha : a.length ≤ 2147483647) (hb : b.length ≤ 2147483647) : impl_RedHatParts.f (bs a) (bs b) = some (Rpm.parts a b) := by
  unfold impl_RedHatParts.f semantic_ZZRedHatParts.f Giv.semantic_compareRedHatComponents.f
  rw [if_pos (by rw [bs_size]; omega), if_pos (by rw [bs_size]; omega), bs_toList, bs_toList]
  rfl
end Go.Proofs.Ytojabknjniihmaa.QR
namespace Go.Proofs.Ytojabknjniihmaa.Pure
open Go.RowKit Go.Proofs.Ytojabknjniihmaa.QR Go.Proofs.YtojabknjniihmaaW.PrintWords Go.Proofs.YtojabknjniihmaaW.PrintLast Go.Proofs.Ytojabknjniihmaa.Pk Go.Proofs.Ytojabknjniihmaa.Giv Go.Proofs.Ytojabknjniihmaa.Ord
theorem FnRedHatBehind : laws_FnRedHatBehind.Pure := by
  intro a s _ _
  suffices h : Ev (fun k => laws_FnRedHatBehind.f k a s) true from h.rounds
  have out : Ev (fun k => laws_FnRedHatBehind.j0 k a s true) true := by
    refine Ev.step (fun k => by rw [laws_FnRedHatBehind.j0]) ?_
    exact ev_pos rfl (Ev.now _)
  have out1 : Ev (fun k => laws_FnRedHatBehind.j1 k a s true) true := by
    refine Ev.step (fun k => by rw [laws_FnRedHatBehind.j1]) ?_
    exact ev_pos rfl (Ev.now _)
  unfold laws_FnRedHatBehind.f
  by_cases hz : (a.size : Int) > 2147483647
  · exact ev_pos hz out
  · refine ev_neg hz ?_
    cases hd : decide ((s.size : Int) > 2147483647) with
    | true => exact out
    | false =>
      refine Ev.step (fun k => by rw [laws_FnRedHatBehind.j0]) ?_
      refine ev_neg (by simp) ?_
      refine (short_ev [a, s] (by simp)).bind ?_
      cases hb : shortB [a, s] with
      | false => exact ev_neg (by simp) out1
      | true =>
        have h1 := short_sizes hb a (by simp)
        have h2 := short_sizes hb s (by simp)
        rw [bs_of a, bs_of s] at out1 ⊢
        have l1 : a.toList.length ≤ 1500 := by rw [len_toList]; exact h1
        have l2 : s.toList.length ≤ 1500 := by rw [len_toList]; exact h2
        generalize a.toList = a at *
        generalize s.toList = s at *
        refine ev_pos rfl ?_
        refine (plain_ev [] a (by simp) (by omega)).bind ?_
        cases hp : plainB [] a with
        | false => exact ev_neg (by simp) out1
        | true =>
          refine ev_pos rfl ?_
          refine (plain_ev [46, 95, 43, 126, 94] s (by simp) (by omega)).bind ?_
          cases hq : plainB [46, 95, 43, 126, 94] s with
          | false => exact out1
          | true =>
            refine Ev.step (fun k => by rw [laws_FnRedHatBehind.j1]) ?_
            refine ev_neg (by simp) ?_
            unfold plainB at hp
            simp only [Bool.and_eq_true, Bool.not_eq_true', List.isEmpty_eq_false_iff] at hp
            have hall : a.all Rpm.al = true := by
              rw [List.all_eq_true] at hp ⊢
              intro x hx
              have := hp.1 x hx
              simpa [alnum, Rpm.al] using this
            obtain ⟨b1, b2, b3, b4⟩ := Rpm.behind a s hp.2 hall
            have e1 : (bs a ++ (⟨#[126]⟩ : ByteArray)) ++ bs s = bs (a ++ 126 :: s) := by
              show (bs a ++ bs [126]) ++ bs s = _
              rw [bs_append, bs_append, List.append_assoc]
              rfl
            have e2 : (bs a ++ (⟨#[94]⟩ : ByteArray)) ++ bs s = bs (a ++ 94 :: s) := by
              show (bs a ++ bs [94]) ++ bs s = _
              rw [bs_append, bs_append, List.append_assoc]
              rfl
            have e3 : bs a ++ (⟨#[46, 49]⟩ : ByteArray) = bs (a ++ [46, 49]) := bs_append a [46, 49]
            have z1 : (bs a ++ (⟨#[126]⟩ : ByteArray)).size = a.length + 1 := by
              show (bs a ++ bs [126]).size = _
              rw [bs_append, bs_size]
              simp
            have z2 : (bs a ++ (⟨#[94]⟩ : ByteArray)).size = a.length + 1 := by
              show (bs a ++ bs [94]).size = _
              rw [bs_append, bs_size]
              simp
            rw [z1, z2, e1, e2, e3, bs_size, bs_size]
            rw [implPartsB _ _ (by simp; omega) (by omega), implPartsB _ _ (by simp; omega) (by omega), implPartsB _ _ (by omega) (by simp; omega), implPartsB _ _ (by simp; omega) (by simp; omega), b1, b2, b3, b4]
            exact ev_pos (by omega) (ev_pos (by omega) (ev_some (ev_pos rfl (ev_pos (by omega) (ev_some (ev_pos rfl (ev_some (ev_pos rfl (ev_pos (by omega) (ev_some (Ev.now _)))))))))))
end Go.Proofs.Ytojabknjniihmaa.Pure
