/- The statement FnCRAN: how two CRAN versions compare, by both roads that there are, for all pairs of texts.
   No condition beyond those that the statement itself states (its card ties the listed variables to the program's text). -/
import Derived.Test.YtchbfjjeodnocaaDoorJPshort
import Derived.Test.YtchbfjjeodnocaaDoorJPidx
import Derived.Test.YtchbfjjeodnocaaDoorJPno
import Derived.Test.YtchbfjjeodnocaaDoorCPra
import Derived.Test.YtchbfjjeodnocaaDoorGivCm
import Derived.Test.YtchbfjjeodnocaaDoorQJx
namespace Go.Proofs.YtchbfjjeodnocaaDoor.Pure
open Go.RowKit Go.Proofs.YtchbfjjeodnocaaDoor.QJ Go.Proofs.YtchbfjjeodnocaaDoorW.PrintWords Go.Proofs.YtchbfjjeodnocaaDoorW.PrintLast Go.Proofs.YtchbfjjeodnocaaDoor.Pk Go.Proofs.YtchbfjjeodnocaaDoor.Giv Go.Proofs.YtchbfjjeodnocaaDoor.Ord
/-- What the reference answers where numbers are told. -/
def toldO (r : Option (List Int)) : List S43 × Bool := match r with
  | some zs => (nl zs, true)
  | none => ([], false)
theorem cp_loop (ps : List ByteArray) (hl : ps.length ≤ 40001) (hs : ∀ x ∈ ps, x.size ≤ 40000) (d : Nat) : ∀ (i : Nat) (zs : List Int), i + d = ps.length → numsOf (ps.take i) = some zs → Ev (fun k => spec_CRANParse.l0 k (nl zs) ps (i : Int)) (toldO (numsOf ps)) := by
  induction d with
  | zero =>
    intro i zs hi h
    rw [List.take_of_length_le (by omega)] at h
    rw [h]
    refine Ev.step (fun k => by rw [spec_CRANParse.l0]) ?_
    refine ev_neg (by omega) ?_
    exact Ev.now _
  | succ d ih =>
    intro i zs hi h
    have hlt : i < ps.length := by omega
    have r := rdOf_nat ByteArray.empty ps i hlt
    have w := wr i (by omega)
    have sn := numsOf_snoc (ps.take i) (ps[i]'hlt) zs h
    rw [← List.take_succ_eq_append_getElem hlt] at sn
    have nlen : zs.length = i := by rw [numsOf_len _ _ h, List.length_take]; omega
    have nu := specNumber_ev (ps[i]'hlt) (hs _ (List.getElem_mem hlt))
    have bad := numsOf_bad ps i hlt zs h
    refine Ev.step (fun k => by rw [spec_CRANParse.l0, r, w]) ?_
    refine ev_pos (by omega) (ev_pos (by omega) ?_)
    cases hp : Num.parse (ps[i]'hlt).toList with
    | none =>
      rw [hp] at nu
      rw [bad hp]
      refine nu.bind ?_
      refine ev_neg (by simp) ?_
      exact Ev.now _
    | some z =>
      rw [hp] at nu sn
      have nx := ih (i + 1) (zs ++ [z]) (by omega) sn
      rw [nl_snoc] at nx
      refine nu.bind ?_
      refine ev_pos rfl (ev_pos (by rw [nl_len]; omega) ?_)
      exact nx
theorem cranParse_ev (s : ByteArray) (hs : s.size ≤ 1500) : Ev (fun k => spec_CRANParse.f k s) (toldO (crN s)) := by
  unfold spec_CRANParse.f crN
  by_cases h : s.toList = []
  · rw [if_pos h]
    refine ev_pos h ?_
    exact Ev.now _
  · rw [if_neg h]
    refine ev_neg h ?_
    have c : Giv.spec_cut_cranMark.f s = some ((Cut.cutAt 46 (s.toList.map hy)).map bs) := by
      unfold Giv.spec_cut_cranMark.f
      rw [if_pos (by omega)]
    rw [c]
    obtain ⟨l1, l2⟩ := Cut.cutAt_sizes 46 (s.toList.map hy)
    rw [List.length_map, len_toList] at l1 l2
    refine ev_some ?_
    exact cp_loop _ (by rw [List.length_map]; omega) (by
      intro x hx
      obtain ⟨y, hy, rfl⟩ := List.mem_map.1 hx
      rw [bs_size]
      have := l2 y hy
      omega) _ 0 [] (Nat.zero_add _) rfl
theorem crN_len {s : ByteArray} {zs : List Int} (hs : s.size ≤ 1500) (h : crN s = some zs) : zs.length < 4611686018427387904 := by
  unfold crN at h
  split at h
  · obtain rfl : zs = [] := by simpa using h.symm
    simp
  · have := numsOf_len _ _ h
    rw [List.length_map] at this
    have := (Cut.cutAt_sizes 46 (s.toList.map hy)).1
    rw [List.length_map, len_toList] at this
    omega
theorem cranCompare_ev (a b : ByteArray) (ha : a.size ≤ 1500) (hb : b.size ≤ 1500) : Ev (fun k => spec_CRANCompare.f k a b) (crA a b) := by
  unfold spec_CRANCompare.f
  refine (cranParse_ev a ha).bind ((cranParse_ev b hb).bind ?_)
  unfold crA
  cases ea : crN a with
  | none =>
    refine ev_neg (by simp [toldO]) ?_
    refine Ev.step (fun k => by rw [spec_CRANCompare.j0]) ?_
    cases crN b <;> exact ev_pos rfl (Ev.now _)
  | some zs =>
    refine ev_pos rfl ?_
    cases eb : crN b with
    | none =>
      refine Ev.step (fun k => by rw [spec_CRANCompare.j0]) ?_
      exact ev_pos rfl (Ev.now _)
    | some ys =>
      refine Ev.step (fun k => by rw [spec_CRANCompare.j0]) ?_
      refine ev_neg (by simp [toldO]) ?_
      have cn := compareNumbers_ev zs ys (crN_len ha ea) (crN_len hb eb)
      refine Ev.bind cn ?_
      show Ev _ (crC zs ys, true)
      by_cases h : padL cI 0 zs ys = 0
      · have e : crC zs ys = cI zs.length ys.length := by
          unfold crC
          rw [if_pos h]
        rw [e]
        refine ev_pos h ?_
        have o := orderInts_f (((toldO (some zs)).1.length : Nat) : Int) (((toldO (some ys)).1.length : Nat) : Int)
        rw [o, show (toldO (some zs)).1.length = zs.length from nl_len zs, show (toldO (some ys)).1.length = ys.length from nl_len ys]
        exact ev_some (Ev.now _)
      · have e : crC zs ys = padL cI 0 zs ys := by
          unfold crC
          rw [if_neg h]
        rw [e]
        exact ev_neg h (Ev.now _)
theorem FnCRAN : laws_FnCRAN.Pure := by
  intro a b _ _
  suffices h : Ev (fun k => laws_FnCRAN.f k a b) true from h.rounds
  have out : Ev (fun k => laws_FnCRAN.j0 k a b true) true := by
    refine Ev.step (fun k => by rw [laws_FnCRAN.j0]) ?_
    exact ev_pos rfl (Ev.now _)
  have out1 : Ev (fun k => laws_FnCRAN.j1 k a b true) true := by
    refine Ev.step (fun k => by rw [laws_FnCRAN.j1]) ?_
    exact ev_pos rfl (Ev.now _)
  unfold laws_FnCRAN.f
  by_cases ha : (a.size : Int) > 2147483647
  · exact ev_pos ha out
  refine ev_neg ha ?_
  cases hc : decide ((b.size : Int) > 2147483647) with
  | true => exact out
  | false =>
  refine Ev.step (fun k => by rw [laws_FnCRAN.j0]) ?_
  refine ev_neg (by simp) ((short_ev [a, b] (by simp)).bind ?_)
  cases sh : shortB [a, b] with
  | false => exact ev_neg (by simp) out1
  | true =>
  have z := short_sizes sh
  have za := z a (by simp)
  have zb := z b (by simp)
  have known : ∀ s : ByteArray, s.size ≤ 1500 → ∃ q, Ev (fun k => spec_CRANKnown.f k s) q := by
    intro s hs
    refine ⟨decide (placeOf (fun x => x == (43 : UInt8)) s.toList < 0), ?_⟩
    unfold spec_CRANKnown.f
    refine (indexOf_ev s 43 (by omega)).bind ?_
    exact Ev.now _
  obtain ⟨qa, ka⟩ := known a za
  obtain ⟨qb, kb⟩ := known b zb
  refine ev_pos rfl (ka.bind ?_)
  cases qa with
  | false => exact ev_neg (by simp) out1
  | true =>
  refine ev_pos rfl (kb.bind ?_)
  cases qb with
  | false => exact out1
  | true =>
  refine Ev.step (fun k => by rw [laws_FnCRAN.j1]) ?_
  refine ev_neg (by simp) ?_
  have i1 : Ev (fun k => Giv.impl_CRANCompare.f k a b) (crA a b) := crR_ev a b (by omega) (by omega)
  have i2 : Ev (fun k => Giv.impl_CRANCompareText.f k a b) (crA a b) := crR_ev a b (by omega) (by omega)
  have i3 : Ev (fun k => Giv.impl_CRANCompare.f k b a) (crA b a) := crR_ev b a (by omega) (by omega)
  obtain ⟨t2, t1, tr⟩ := crA_two a b
  refine (cranCompare_ev a b za zb).bind (i1.bind (i2.bind (i3.bind ?_)))
  refine ev_pos rfl (ev_pos (by simp) (ev_pos rfl (ev_pos (by simp) (ev_pos (by rw [t2]; simp) ?_))))
  have t : laws_turned.f (crA a b).1 (crA b a).1 = some true := by
    rw [t1]
    generalize (crA a b).1 = r at tr
    unfold laws_turned.f
    have w : wrap64 (- -r) = r := by unfold wrap64; omega
    rw [w, if_pos rfl, if_pos (by omega), decide_eq_true (by omega)]
  rw [t]
  exact ev_some (Ev.now _)
end Go.Proofs.YtchbfjjeodnocaaDoor.Pure
