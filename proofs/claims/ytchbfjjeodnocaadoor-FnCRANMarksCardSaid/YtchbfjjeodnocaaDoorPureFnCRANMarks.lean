/- The statement FnCRANMarks: hyphens are points in CRAN versions, for all texts.
   No condition beyond those that the statement itself states (its card ties the listed variables to the program's text). -/
import Derived.Test.YtchbfjjeodnocaaDoorXPshort
import Derived.Test.YtchbfjjeodnocaaDoorXPplain
import Derived.Test.YtchbfjjeodnocaaDoorXPcr
import Derived.Test.YtchbfjjeodnocaaDoorQXx
namespace Go.Proofs.YtchbfjjeodnocaaDoor.Pure
open Go.RowKit Go.Proofs.YtchbfjjeodnocaaDoor.QX Go.Proofs.YtchbfjjeodnocaaDoorW.PrintWords Go.Proofs.YtchbfjjeodnocaaDoorW.PrintLast Go.Proofs.YtchbfjjeodnocaaDoor.Pk Go.Proofs.YtchbfjjeodnocaaDoor.Giv Go.Proofs.YtchbfjjeodnocaaDoor.Ord
theorem marks_loop (s : ByteArray) (hs : s.size ≤ 1500) (d : Nat) : ∀ i : Nat, i + d = s.size → Ev (fun k => laws_FnCRANMarks.l0 k s (bs ((s.toList.take i).map swp)) (i : Int)) true := by
  induction d with
  | zero =>
    intro i hi
    refine Ev.step (fun k => by rw [laws_FnCRANMarks.l0]) ?_
    rw [List.take_of_length_le (by rw [len_toList]; omega)]
    refine ev_neg (by omega) ?_
    have sz : (bs (s.toList.map swp)).size ≤ 40000 := by rw [bs_size, List.length_map, len_toList]; omega
    have i2 := ip_ev (bs (s.toList.map swp)) sz
    have i3 := ic_ev s (bs (s.toList.map swp)) (by omega) sz
    rw [crA_same _ _ (crN_swp s)] at i3
    rw [crN_swp] at i2
    refine (ip_ev s (by omega)).bind (i2.bind ?_)
    have il := ints_ev _ (ip_len s (by omega))
    cases hc : crN s with
    | none =>
      refine ev_neg (by simp [ipR]) ?_
      refine Ev.step (fun k => by rw [laws_FnCRANMarks.j2]) ?_
      refine ev_pos rfl (ev_pos rfl ?_)
      exact cranAwake_ev.bind (Ev.now _)
    | some zs =>
      rw [hc] at il i3
      refine ev_pos rfl ?_
      refine Ev.step (fun k => by rw [laws_FnCRANMarks.j2]) ?_
      refine ev_neg (by simp [ipR]) (i3.bind (il.bind ?_))
      refine ev_pos rfl (ev_pos rfl ?_)
      exact Ev.now _
  | succ d ih =>
    intro i hi
    have hlt : i < s.size := by omega
    have b := bt_nat s i hlt
    have w := wr i (by omega)
    have x1 : s.extract ((i : Int)).toNat (((i + 1 : Nat) : Int)).toNat = bs [s[i]'hlt] := by
      rw [Int.toNat_natCast, Int.toNat_natCast]
      exact bs_eq (by rw [ext_toList, drop_at s i hlt, show i + 1 - i = 1 by omega]; rfl)
    have nx := ih (i + 1) (by omega)
    rw [take_next' s i hlt, List.map_append, List.map_cons, List.map_nil] at nx
    refine Ev.step (fun k => by rw [laws_FnCRANMarks.l0, b, w, x1, show (⟨#[46]⟩ : ByteArray) = bs [46] from rfl, show (⟨#[45]⟩ : ByteArray) = bs [45] from rfl]) ?_
    generalize s[i]'hlt = c at *
    have zl : (bs ((s.toList.take i).map swp)).size ≤ 1500 := by rw [bs_size, List.length_map, List.length_take, len_toList]; omega
    refine ev_pos (by omega) (ev_pos (by omega) ?_)
    simp only [bs_append]
    by_cases h1 : c = 45
    · subst h1
      refine ev_pos rfl (ev_pos (by omega) ?_)
      exact nx
    · refine ev_neg (fun h => h1 (UInt8.toNat_inj.1 (by rw [show (45 : UInt8).toNat = 45 from rfl]; omega))) ?_
      by_cases h2 : c = 46
      · subst h2
        refine ev_pos rfl (ev_pos (by omega) ?_)
        exact nx
      · refine ev_neg (fun h => h2 (UInt8.toNat_inj.1 (by rw [show (46 : UInt8).toNat = 46 from rfl]; omega))) ?_
        have e : swp c = c := by
          unfold swp
          rw [if_neg h1, if_neg h2]
        rw [e] at nx
        refine ev_pos (by omega) (ev_pos (by omega) (ev_pos (by have q := bs_size [c]; rw [List.length_singleton] at q; omega) ?_))
        exact nx
theorem FnCRANMarks : laws_FnCRANMarks.Pure := by
  intro a _
  suffices h : Ev (fun k => laws_FnCRANMarks.f k a) true from h.rounds
  have out : Ev (fun k => laws_FnCRANMarks.j0 k a true) true := by
    refine Ev.step (fun k => by rw [laws_FnCRANMarks.j0]) ?_
    exact ev_pos rfl (Ev.now _)
  unfold laws_FnCRANMarks.f
  by_cases ha : (a.size : Int) > 2147483647
  · exact ev_pos ha (Ev.now _)
  refine ev_neg ha ((short_ev [a] (by simp)).bind ?_)
  cases sh : shortB [a] with
  | false => exact ev_neg (by simp) out
  | true =>
  have za := short_sizes sh a (by simp)
  have pv := plain_ev [46, 45] a.toList (by simp) (by rw [len_toList]; omega)
  rw [← bs_of] at pv
  refine ev_pos rfl (pv.bind ?_)
  cases plainB [46, 45] a.toList with
  | false => exact out
  | true =>
  refine Ev.step (fun k => by rw [laws_FnCRANMarks.j0]) ?_
  refine ev_neg (by simp) ?_
  have := marks_loop a za a.size 0 (Nat.zero_add _)
  rw [List.take_zero] at this
  exact this
end Go.Proofs.YtchbfjjeodnocaaDoor.Pure
