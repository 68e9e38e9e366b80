/- What the program answers of texts cut at a byte, and of what stands behind a version's numbers. -/
import Derived.Test.YtfgechefinijbaaDoorZD
import Derived.Test.YtfgechefinijbaaDoorCut
import Derived.Test.YtfgechefinijbaaDoorZLP
import Derived.Test.YtfgechefinijbaaDoorQLx
namespace Go.Proofs.YtfgechefinijbaaDoor.QL
open Go.RowKit Go.Proofs.YtfgechefinijbaaDoorW.PrintWords Go.Proofs.YtfgechefinijbaaDoorW.PrintLast Go.Proofs.YtfgechefinijbaaDoor.Pk Go.Proofs.YtfgechefinijbaaDoor.Giv Go.Proofs.YtfgechefinijbaaDoor.Ord
set_option linter.unusedVariables false

theorem sp_one (c : UInt8) : (⟨#[c]⟩ : ByteArray) = bs [c] := rfl
theorem sp_idx_loop (l : List UInt8) (c : UInt8) (hs : l.length < 4611686018427387904) (d : Nat) : ∀ i : Nat, i + d = l.length → (l.take i).any (fun x => x == c) = false → Ev (fun k => semantic_zzIndex.l0 k (bs l) (bs [c]) (i : Int)) (placeOf (fun x => x == c) l) := by
  induction d with
  | zero =>
    intro i hi hno
    have w := wr i (by omega)
    refine Ev.step (fun k => by rw [semantic_zzIndex.l0, bs_size, bs_size]) ?_
    have w' : wrap64 ((i : Int) + (([c] : List UInt8).length : Int)) = ((i + 1 : Nat) : Int) := w
    rw [w']
    refine ev_neg (by omega) ?_
    rw [List.take_of_length_le (by omega)] at hno
    have e : placeOf (fun x => x == c) l = -1 := by
      unfold placeOf
      rw [hno]
      rfl
    rw [e]
    exact Ev.now _
  | succ d ih =>
    intro i hi hno
    have hlt : i < l.length := by omega
    have w := wr i (by omega)
    have w' : wrap64 ((i : Int) + (([c] : List UInt8).length : Int)) = ((i + 1 : Nat) : Int) := w
    refine Ev.step (fun k => by rw [semantic_zzIndex.l0, bs_size, bs_size]) ?_
    rw [w', w]
    refine ev_pos (by omega) (ev_pos (by omega) (ev_pos (by omega) ?_))
    have hx : ((bs l).extract ((i : Int)).toNat (((i + 1 : Nat) : Int)).toNat).toList = [l[i]'hlt] := by
      rw [Int.toNat_natCast, Int.toNat_natCast, bs_ext, bs_toList, List.drop_eq_getElem_cons hlt, show i + 1 - i = 1 by omega]
      rfl
    rw [hx, bs_toList]
    by_cases h : (l[i]'hlt) = c
    · refine ev_pos (by rw [h]) ?_
      rw [placeOf_step _ l i hlt hno (by rw [h]; simp)]
      exact Ev.now _
    · refine ev_neg (fun e => h (List.cons.inj e).1) ?_
      refine ih (i + 1) (by omega) ?_
      rw [List.take_succ_eq_append_getElem hlt, List.any_append, hno]
      simpa using h
theorem sp_idx (l : List UInt8) (c : UInt8) (hs : l.length < 4611686018427387904) : Ev (fun k => semantic_zzIndex.f k (bs l) (bs [c])) (placeOf (fun x => x == c) l) := sp_idx_loop l c hs l.length 0 (by omega) (by simp)
theorem sp_place (c : UInt8) (l : List UInt8) (h : (l.any (fun x => x == c)) = true) : placeOf (fun x => x == c) l = ((Cut.upTo c l).length : Int) := by
  unfold placeOf
  rw [if_pos h]
  congr 1
  induction l with
  | nil => simp at h
  | cons x r ih =>
    unfold Cut.upTo
    rw [List.findIdx_cons]
    by_cases hx : x = c
    · rw [List.takeWhile_cons_of_neg (by simp [hx])]
      simp [hx]
    · rw [List.takeWhile_cons_of_pos (by simp [hx])]
      rw [List.any_cons] at h
      have hr : (r.any fun x => x == c) = true := by simpa [hx] using h
      have := ih hr
      unfold Cut.upTo at this
      have hb : (x == c) = false := by simpa using hx
      rw [hb, List.length_cons]
      simp [this]
theorem sp_loop (c : UInt8) (n : Nat) : ∀ (l : List UInt8) (acc : List ByteArray), l.length ≤ n → acc.length + l.length < 8796093022207 → Ev (fun k => semantic_zzSplit.l1 k (bs l) (bs [c]) acc) (acc ++ (Cut.cutAt c l).map bs) := by
  induction n with
  | zero =>
    intro l acc hl ha
    have e : l = [] := List.length_eq_zero_iff.1 (by omega)
    subst e
    refine Ev.step (fun k => by rw [semantic_zzSplit.l1]) ?_
    refine (sp_idx [] c (by simp)).bind ?_
    refine ev_pos (by simp [placeOf]) (ev_pos (by omega) ?_)
    exact Ev.now _
  | succ n ih =>
    intro l acc hl ha
    refine Ev.step (fun k => by rw [semantic_zzSplit.l1]) ?_
    refine (sp_idx l c (by omega)).bind ?_
    by_cases h : (l.any (fun x => x == c)) = true
    · obtain ⟨e1, e2, e3⟩ := Cut.cutAt_yes c l h
      rw [sp_place c l h, e1]
      generalize (Cut.upTo c l).length = j at *
      have w : wrap64 ((j : Int) + ((bs [c]).size : Int)) = ((j + 1 : Nat) : Int) := by
        rw [bs_size]
        exact wr j (by omega)
      refine ev_neg (by omega) (ev_pos (by omega) (ev_pos (by rw [bs_size]; omega) (ev_pos (by omega) ?_)))
      rw [w]
      refine ev_pos (by omega) (ev_pos (by rw [bs_size]; omega) ?_)
      rw [Int.toNat_natCast, Int.toNat_natCast, bs_extAll, bs_extHead, e3]
      have z := ih (l.drop (j + 1)) (acc ++ [bs (Cut.upTo c l)]) (by rw [List.length_drop]; omega) (by rw [List.length_append, List.length_singleton, List.length_drop]; omega)
      rw [List.append_assoc] at z
      exact z
    · have h' : (l.any (fun x => x == c)) = false := Bool.eq_false_iff.2 h
      have e : placeOf (fun x => x == c) l = -1 := by
        unfold placeOf
        rw [h']
        rfl
      rw [e, (Cut.cutAt_no c l h').1]
      refine ev_pos (by omega) (ev_pos (by omega) ?_)
      exact Ev.now _
theorem split_ev (c : UInt8) (l : List UInt8) (hl : l.length < 8796093022207) : Ev (fun k => semantic_zzSplit.f k (bs l) (bs [c])) ((Cut.cutAt c l).map bs) := by
  unfold semantic_zzSplit.f
  refine ev_neg (by rw [bs_size]; simp) ?_
  have := sp_loop c l.length l [] (Nat.le_refl _) (by simpa using hl)
  exact this
theorem first_ev (l : List UInt8) (hl : l.length < 8796093022207) : Ev (fun k => semantic_removeBuildMetadata.f k (bs l)) (bs (Cut.upTo 43 l)) := by
  unfold semantic_removeBuildMetadata.f
  rw [sp_one]
  refine (split_ev 43 l hl).bind ?_
  have e : ∃ t, Cut.cutAt 43 l = Cut.upTo 43 l :: t := by
    by_cases h : (l.any (fun x => x == (43 : UInt8))) = true
    · exact ⟨_, (Cut.cutAt_yes 43 l h).1⟩
    · obtain ⟨a, b⟩ := Cut.cutAt_no 43 l (Bool.eq_false_iff.2 h)
      exact ⟨[], by rw [a, b]⟩
  obtain ⟨t, e⟩ := e
  rw [e]
  refine ev_pos (by simp) ?_
  exact Ev.now _
theorem trim_f (c : UInt8) (l : List UInt8) : strings_TrimPrefix.f (bs l) (bs [c]) = some (bs (Cut.trim c l)) := by
  unfold strings_TrimPrefix.f stringslite_TrimPrefix.f stringslite_HasPrefix.f
  rw [bs_size, bs_size]
  cases l with
  | nil =>
    rw [if_neg (by simp)]
    rfl
  | cons x r =>
    rw [if_pos (by simp; omega), if_pos (by simp), if_pos (by simp; omega), bs_extHead, bs_toList, bs_toList]
    unfold Cut.trim
    by_cases h : x = c
    · subst h
      have e : (List.take [x].length (x :: r) == [x]) = true := by simp
      rw [e]
      simp only [Option.bind_some, if_true]
      rw [if_pos (by simp), if_pos (by simp; omega)]
      have := bs_tail x r
      rw [bs_size] at this
      simp only [Option.bind_some]
      exact congrArg some this
    · have e : (List.take [c].length (x :: r) == [c]) = false := by simpa using h
      rw [e]
      simp only [Option.bind_some, h, if_false]
      rfl
theorem tl_bs (m : List (List UInt8)) : tl (m.map bs) = m := by
  unfold tl
  rw [List.map_map]
  conv => rhs; rw [← List.map_id m]
  refine List.map_congr_left ?_
  intro x _
  exact bs_toList x
theorem fit_cut (c : UInt8) (l : List UInt8) (hl : l.length ≤ 40000) : fit ((Cut.cutAt c l).map bs) = true := by
  obtain ⟨a, b⟩ := Cut.cutAt_sizes c l
  unfold fit
  rw [Bool.and_eq_true, List.all_eq_true]
  refine ⟨decide_eq_true (by rw [List.length_map]; omega), fun s hs => decide_eq_true ?_⟩
  obtain ⟨x, hx, rfl⟩ := List.mem_map.1 hs
  rw [bs_size]
  have := b x hx
  omega
theorem em_nil : Cut.em [] = 1 := rfl
theorem em_ne {l : List UInt8} (h : l ≠ []) : Cut.em l = 0 := if_neg h
theorem build_ev (a b : List UInt8) (ha : a.length ≤ 40000) (hb : b.length ≤ 40000) : Ev (fun k => semantic_compareBuildComponents.f k (bs a) (bs b)) (Cut.buildC a b) := by
  have la := Cut.core_len a
  have lb := Cut.core_len b
  unfold semantic_compareBuildComponents.f
  refine (first_ev a (by omega)).bind ((first_ev b (by omega)).bind ?_)
  rw [sp_one, trim_f, trim_f]
  refine ev_some (ev_some ?_)
  show Ev (fun k => if (bs (Cut.core a)).toList = ([] : List UInt8) then semantic_compareBuildComponents.j0 k (bs (Cut.core a)) (bs (Cut.core b)) ((bs (Cut.core b)).toList != ([] : List UInt8)) else semantic_compareBuildComponents.j0 k (bs (Cut.core a)) (bs (Cut.core b)) false) (Cut.buildC a b)
  have last : Ev (fun k => semantic_compareBuildComponents.j1 k (bs (Cut.core a)) (bs (Cut.core b)) false) (lexL Seg.idC (Cut.cutAt 46 (Cut.core a)) (Cut.cutAt 46 (Cut.core b))) := by
    refine Ev.step (fun k => by rw [semantic_compareBuildComponents.j1]) ?_
    refine ev_neg (by simp) ?_
    rw [sp_one]
    refine (split_ev 46 _ (by omega)).bind ((split_ev 46 _ (by omega)).bind ?_)
    unfold Giv.semantic_compareSemverBuildComponents.f
    rw [if_pos ⟨fit_cut 46 _ (by omega), fit_cut 46 _ (by omega)⟩, tl_bs, tl_bs]
    exact ev_some (Ev.now _)
  unfold Cut.buildC
  by_cases h1 : Cut.core a = []
  · refine ev_pos (by rw [bs_toList]; exact h1) ?_
    refine Ev.step (fun k => by rw [semantic_compareBuildComponents.j0]) ?_
    by_cases h2 : Cut.core b = []
    · refine ev_neg (by rw [bs_toList]; simp [h2]) (ev_pos (by rw [bs_toList]; exact h1) ?_)
      rw [h1, h2, if_pos (by rfl)]
      rw [h1, h2] at last
      exact last
    · refine ev_pos (by rw [bs_toList]; simpa using h2) ?_
      rw [h1, em_nil, em_ne h2, if_neg (by decide)]
      exact Ev.now _
  · refine ev_neg (by rw [bs_toList]; exact h1) ?_
    refine Ev.step (fun k => by rw [semantic_compareBuildComponents.j0]) ?_
    refine ev_neg (by simp) (ev_neg (by rw [bs_toList]; exact h1) ?_)
    rw [em_ne h1]
    by_cases h2 : Cut.core b = []
    · have e : ((bs (Cut.core b)).toList == ([] : List UInt8)) = true := by rw [bs_toList]; simpa using h2
      rw [e]
      refine Ev.step (fun k => by rw [semantic_compareBuildComponents.j1]) ?_
      refine ev_pos rfl ?_
      rw [h2, em_nil, if_neg (by decide)]
      exact Ev.now _
    · have e : ((bs (Cut.core b)).toList == ([] : List UInt8)) = false := by rw [bs_toList]; simpa using h2
      rw [e, em_ne h2, if_pos (by rfl)]
      exact last
theorem implBuilds (a b : List UInt8) (ha : a.length ≤ 40000) (hb : b.length ≤ 40000) : Ev (fun k => impl_Builds.f k (bs a) (bs b)) (Cut.buildC a b) := by
  unfold impl_Builds.f semantic_ZZBuilds.f
  exact ((build_ev a b ha hb).bind (Ev.now _)).bind (Ev.now _)
theorem implIds' {a b : List ByteArray} (ha : fit a = true) (hb : fit b = true) : impl_Identifiers.f a b = some (lexL Seg.idC (tl a) (tl b)) := by
  unfold impl_Identifiers.f semantic_ZZIdentifiers.f Giv.semantic_compareSemverBuildComponents.f
  rw [if_pos ⟨ha, hb⟩]
  rfl
theorem wordsAwake : Ev (fun k => laws_wordsAwake.f k) true := by
  unfold laws_wordsAwake.f
  rw [implIds' (by decide) (by decide)]
  have e : lexL Seg.idC (tl [(⟨#[97]⟩ : ByteArray)]) (tl [(⟨#[98]⟩ : ByteArray)]) = -1 := by
    have l1 : tl [(⟨#[97]⟩ : ByteArray)] = [[97]] := tl_bs [[97]]
    have l2 : tl [(⟨#[98]⟩ : ByteArray)] = [[98]] := tl_bs [[98]]
    rw [l1, l2]
    decide
  rw [e]
  refine ev_some (ev_pos rfl ?_)
  have b := implBuilds [45, 97] [45, 98] (by decide) (by decide)
  have v : Cut.buildC [45, 97] [45, 98] = -1 := by decide
  rw [v] at b
  exact b.bind (Ev.now _)
end Go.Proofs.YtfgechefinijbaaDoor.QL
