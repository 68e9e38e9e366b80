/- What the program reads of a CRAN version: hyphens turned to points, then cut at points. -/
import Derived.Test.YtchbfjjeodnocaaDoorCPsp
import Derived.Test.YtchbfjjeodnocaaDoorCGivCr
import Derived.Test.YtchbfjjeodnocaaDoorGivCm
namespace Go.Proofs.YtchbfjjeodnocaaDoor.QC
open Go.RowKit Go.Proofs.YtchbfjjeodnocaaDoorW.PrintWords Go.Proofs.YtchbfjjeodnocaaDoorW.PrintLast Go.Proofs.YtchbfjjeodnocaaDoor.Pk Go.Proofs.YtchbfjjeodnocaaDoor.Giv Go.Proofs.YtchbfjjeodnocaaDoor.Ord
set_option linter.unusedVariables false

def rb (l : List UInt8) : List Int := l.map (fun c => (c.toNat : Int))
theorem rb_len (l : List UInt8) : (rb l).length = l.length := by simp [rb]
theorem rb_app (l m : List UInt8) : rb l ++ rb m = rb (l ++ m) := by simp [rb]
theorem rb_of (l : List UInt8) : bytesOf (bs l) = rb l := by simp [bytesOf, rb, bs]
theorem rb_str (l : List UInt8) : strOfNums (rb l) = bs l := by
  unfold strOfNums bs rb
  rw [List.map_map]
  congr 2
  conv => rhs; rw [← List.map_id l]
  apply List.map_congr_left
  intro c _
  simp
theorem hy_not : ∀ l : List UInt8, (l.any (fun x => x == 45)) = false → l.map hy = l
  | [], _ => rfl
  | x :: l, h => by
    rw [List.any_cons, Bool.or_eq_false_iff] at h
    rw [List.map_cons, hy_not l h.2]
    have : hy x = x := by
      unfold hy
      rw [if_neg (by simpa using h.1)]
    rw [this]
theorem cut_split (l : List UInt8) (h : (l.any (fun x => x == 45)) = true) : l = Cut.upTo 45 l ++ 45 :: l.drop ((Cut.upTo 45 l).length + 1) := by
  induction l with
  | nil => simp at h
  | cons x r ih =>
    unfold Cut.upTo at ih ⊢
    by_cases hx : x = 45
    · subst hx
      rw [List.takeWhile_cons_of_neg (by simp)]
      rfl
    · rw [List.takeWhile_cons_of_pos (by simp [hx])]
      rw [List.any_cons] at h
      have hr : (r.any fun x => x == 45) = true := by simpa [hx] using h
      have e := ih hr
      rw [List.cons_append, List.length_cons, List.drop_succ_cons, ← e]
theorem upTo_no (l : List UInt8) : ((Cut.upTo 45 l).any (fun x => x == 45)) = false := by
  unfold Cut.upTo
  rw [List.any_eq_false]
  intro x hx
  have := List.all_eq_true.1 (List.all_takeWhile (p := fun x => !x == (45 : UInt8)) (l := l)) x hx
  simpa using this
theorem ra_loop (n : Nat) : ∀ (l acc : List UInt8), l.length ≤ n → acc.length + l.length ≤ 40000 → Ev (fun k => semantic_zzReplaceAll.l1 k (bs l) (bs [45]) (bs [46]) (rb acc)) (bs (acc ++ l.map hy)) := by
  induction n with
  | zero =>
    intro l acc hl ha
    have e : l = [] := List.length_eq_zero_iff.1 (by omega)
    subst e
    refine Ev.step (fun k => by rw [semantic_zzReplaceAll.l1]) ?_
    refine (sp_idx [] 45 (by simp)).bind ?_
    refine ev_pos (by simp [placeOf]) (ev_pos (by rw [rb_len, bs_size]; simp; omega) ?_)
    rw [rb_of, rb_app, rb_str]
    exact Ev.now _
  | succ n ih =>
    intro l acc hl ha
    refine Ev.step (fun k => by rw [semantic_zzReplaceAll.l1]) ?_
    refine (sp_idx l 45 (by omega)).bind ?_
    by_cases h : (l.any (fun x => x == 45)) = true
    · obtain ⟨_, e2, e3⟩ := Cut.cutAt_yes 45 l h
      have sp := cut_split l h
      have un := hy_not _ (upTo_no l)
      have fin : acc ++ l.map hy = (acc ++ Cut.upTo 45 l ++ [46]) ++ (l.drop ((Cut.upTo 45 l).length + 1)).map hy := by
        conv => lhs; rw [sp]
        rw [List.map_append, un, List.map_cons, show hy 45 = 46 from rfl]
        simp
      rw [sp_place 45 l h]
      obtain ⟨j, hj⟩ : ∃ j, j = (Cut.upTo 45 l).length := ⟨_, rfl⟩
      rw [← hj] at e2 e3 fin ⊢
      have w : wrap64 ((j : Int) + ((bs [45]).size : Int)) = ((j + 1 : Nat) : Int) := by
        rw [bs_size]
        exact wr j (by omega)
      rw [w]
      have x0 : (bs l).extract 0 ((j : Int)).toNat = bs (Cut.upTo 45 l) := by rw [Int.toNat_natCast, bs_extHead, e3]
      have x1 : (bs l).extract (((j + 1 : Nat) : Int)).toNat (bs l).size = bs (l.drop (j + 1)) := by rw [Int.toNat_natCast, bs_extAll]
      rw [x0, x1, bs_size, bs_size, bs_size, rb_len, rb_of, rb_of, rb_app]
      refine ev_neg (by omega) (ev_pos (by omega) (ev_pos (by omega) (ev_pos (by omega) ?_)))
      refine ev_some ?_
      rw [rb_app, rb_len, rb_of, rb_app, fin]
      refine ev_pos (by rw [List.length_append]; simp; omega) (ev_pos (by omega) (ev_pos (by omega) ?_))
      exact ih (l.drop (j + 1)) (acc ++ Cut.upTo 45 l ++ [46]) (by rw [List.length_drop]; omega) (by rw [List.length_append, List.length_append, List.length_singleton, List.length_drop]; omega)
    · have h' : (l.any (fun x => x == 45)) = false := Bool.eq_false_iff.2 h
      have e : placeOf (fun x => x == (45 : UInt8)) l = -1 := by
        unfold placeOf
        rw [h']
        rfl
      rw [e, hy_not l h']
      refine ev_pos (by omega) (ev_pos (by rw [rb_len, bs_size]; omega) ?_)
      rw [rb_of, rb_app, rb_str]
      exact Ev.now _
theorem replace_ev (l : List UInt8) (hl : l.length ≤ 40000) : Ev (fun k => semantic_zzReplaceAll.f k (bs l) (bs [45]) (bs [46])) (bs (l.map hy)) := by
  unfold semantic_zzReplaceAll.f
  refine ev_neg (by rw [bs_size]; simp) ?_
  exact ra_loop l.length l [] (Nat.le_refl _) (by simpa using hl)
theorem fit_cut' (c : UInt8) (l : List UInt8) (hl : l.length ≤ 40000) : fit ((Cut.cutAt c l).map bs) = true := by
  obtain ⟨a, b⟩ := Cut.cutAt_sizes c l
  unfold fit
  rw [Bool.and_eq_true, List.all_eq_true]
  refine ⟨decide_eq_true (by rw [List.length_map]; omega), fun s hs => decide_eq_true ?_⟩
  obtain ⟨x, hx, rfl⟩ := List.mem_map.1 hs
  rw [bs_size]
  have := b x hx
  omega
end Go.Proofs.YtchbfjjeodnocaaDoor.QC
namespace Go.Proofs.YtchbfjjeodnocaaDoor.Giv
open Go.RowKit Go.Proofs.YtchbfjjeodnocaaDoorW.PrintWords Go.Proofs.YtchbfjjeodnocaaDoorW.PrintLast Go.Proofs.YtchbfjjeodnocaaDoor.Pk Go.Proofs.YtchbfjjeodnocaaDoor.Ord
/-- The numbers of a CRAN version; none: it is no version. -/
def crN (s : ByteArray) : Option (List Int) := if s.toList = [] then some [] else numsOf ((Cut.cutAt 46 (s.toList.map hy)).map bs)
theorem crP_ev (s : ByteArray) (hs : s.size ≤ 40000) : Ev (fun k => crP k s) (crN s) := by
  unfold crP crN
  by_cases h : s.toList = []
  · rw [if_pos h]
    refine ev_pos h ?_
    exact Ev.now _
  · rw [if_neg h]
    refine ev_neg h ?_
    have r := QC.replace_ev s.toList (by rw [len_toList]; exact hs)
    rw [← bs_of] at r
    refine r.bind ?_
    have f := QC.fit_cut' 46 (s.toList.map hy) (by rw [List.length_map, len_toList]; exact hs)
    refine (QC.split_ev 46 (s.toList.map hy) (by rw [List.length_map, len_toList]; omega)).bind ?_
    refine ev_pos f ?_
    exact Ev.now _
/-- How two CRAN versions compare, and whether both are versions. -/
def crA (a b : ByteArray) : Int × Bool := match crN a, crN b with | some zs, some ys => (crC zs ys, true) | _, _ => (0, false)
theorem crR_ev (a b : ByteArray) (ha : a.size ≤ 40000) (hb : b.size ≤ 40000) : Ev (fun k => crR k a b) (crA a b) := by
  unfold crR
  refine (crP_ev a ha).bind ((crP_ev b hb).bind ?_)
  unfold crA
  cases crN a with
  | none => exact Ev.now _
  | some zs => cases crN b <;> exact Ev.now _
theorem crC_flip (zs ys : List Int) : crC ys zs = - crC zs ys := by
  unfold crC
  have p := (padL_cmp cI_cmp (0 : Int)).flip zs ys
  have q := cI_cmp.flip (zs.length : Int) (ys.length : Int)
  by_cases h : padL cI 0 zs ys = 0
  · rw [if_pos h, if_pos (by omega)]
    omega
  · rw [if_neg h, if_neg (by omega)]
    omega
theorem crC_rng (zs ys : List Int) : crC zs ys = -1 ∨ crC zs ys = 0 ∨ crC zs ys = 1 := by
  unfold crC
  split
  · exact cI_cmp.rng _ _
  · exact (padL_cmp cI_cmp (0 : Int)).rng _ _
theorem crA_two (a b : ByteArray) : (crA b a).2 = (crA a b).2 ∧ (crA b a).1 = - (crA a b).1 ∧ ((crA a b).1 = -1 ∨ (crA a b).1 = 0 ∨ (crA a b).1 = 1) := by
  unfold crA
  cases crN a with
  | none => cases crN b <;> exact ⟨rfl, rfl, .inr (.inl rfl)⟩
  | some zs =>
    cases crN b with
    | none => exact ⟨rfl, rfl, .inr (.inl rfl)⟩
    | some ys => exact ⟨rfl, crC_flip zs ys, crC_rng zs ys⟩
end Go.Proofs.YtchbfjjeodnocaaDoor.Giv
