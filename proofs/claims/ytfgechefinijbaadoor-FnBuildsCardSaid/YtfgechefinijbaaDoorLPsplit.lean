/- What the program answers of texts cut at a byte, and of what stands behind a version's numbers. -/
import Derived.Test.YtfgechefinijbaaDoorZD
import Derived.Test.YtfgechefinijbaaDoorZK
import Derived.Test.YtfgechefinijbaaDoorZLP
import Derived.Test.YtfgechefinijbaaDoorLPsp
import Derived.Test.YtfgechefinijbaaDoorQLx
namespace Go.Proofs.YtfgechefinijbaaDoor.QL
open Go.RowKit Go.Proofs.YtfgechefinijbaaDoorW.PrintWords Go.Proofs.YtfgechefinijbaaDoorW.PrintLast Go.Proofs.YtfgechefinijbaaDoor.Pk Go.Proofs.YtfgechefinijbaaDoor.Giv Go.Proofs.YtfgechefinijbaaDoor.Ord
set_option linter.unusedVariables false

theorem first_ev (l : List UInt8) (hl : l.length < 8796093022207) : Ev (fun k => semantic_removeBuildMetadata.f k (bs l)) (bs (Cut.upTo 43 l)) := by
  unfold semantic_removeBuildMetadata.f
  rw [sp_one]
  refine (split_ev 43 l hl).bind ?_
  have e : ∃ t, Cut.cutAt 43 l = Cut.upTo 43 l :: t := by
    by_cases h : (l.any (fun x => x == (43 : UInt8))) = true
    · exact ⟨_, (Cut.cutAt_yes 43 l h).1⟩
    · obtain ⟨a, b⟩ := Cut.cutAt_no 43 l (Bool.eq_false_iff.2 h)
      exact ⟨[], by rw [a, b]⟩
  obtain ⟨t, e⟩ := e
  rw [e]
  refine ev_pos (by simp) ?_
  exact Ev.now _
theorem trim_f (c : UInt8) (l : List UInt8) : strings_TrimPrefix.f (bs l) (bs [c]) = some (bs (Cut.trim c l)) := by
  unfold strings_TrimPrefix.f stringslite_TrimPrefix.f stringslite_HasPrefix.f
  rw [bs_size, bs_size]
  cases l with
  | nil =>
    rw [if_neg (by simp)]
    rfl
  | cons x r =>
    rw [if_pos (by simp; omega), if_pos (by simp), if_pos (by simp; omega), bs_extHead, bs_toList, bs_toList]
    unfold Cut.trim
    by_cases h : x = c
    · subst h
      have e : (List.take [x].length (x :: r) == [x]) = true := by simp
      rw [e]
      simp only [Option.bind_some, if_true]
      rw [if_pos (by simp), if_pos (by simp; omega)]
      have := bs_tail x r
      rw [bs_size] at this
      simp only [Option.bind_some]
      exact congrArg some this
    · have e : (List.take [c].length (x :: r) == [c]) = false := by simpa using h
      rw [e]
      simp only [Option.bind_some, h, if_false]
      rfl
theorem tl_bs (m : List (List UInt8)) : tl (m.map bs) = m := by
  unfold tl
  rw [List.map_map]
  conv => rhs; rw [← List.map_id m]
  refine List.map_congr_left ?_
  intro x _
  exact bs_toList x
theorem fit_cut (c : UInt8) (l : List UInt8) (hl : l.length ≤ 40000) : fit ((Cut.cutAt c l).map bs) = true := by
  obtain ⟨a, b⟩ := Cut.cutAt_sizes c l
  unfold fit
  rw [Bool.and_eq_true, List.all_eq_true]
  refine ⟨decide_eq_true (by rw [List.length_map]; omega), fun s hs => decide_eq_true ?_⟩
  obtain ⟨x, hx, rfl⟩ := List.mem_map.1 hs
  rw [bs_size]
  have := b x hx
  omega
theorem em_nil : Cut.em [] = 1 := rfl
theorem em_ne {l : List UInt8} (h : l ≠ []) : Cut.em l = 0 := if_neg h
theorem build_ev (a b : List UInt8) (ha : a.length ≤ 40000) (hb : b.length ≤ 40000) : Ev (fun k => semantic_compareBuildComponents.f k (bs a) (bs b)) (Cut.buildC a b) := by
  have la := Cut.core_len a
  have lb := Cut.core_len b
  unfold semantic_compareBuildComponents.f
  refine (first_ev a (by omega)).bind ((first_ev b (by omega)).bind ?_)
  rw [sp_one, trim_f, trim_f]
  refine ev_some (ev_some ?_)
  show Ev (fun k => if (bs (Cut.core a)).toList = ([] : List UInt8) then semantic_compareBuildComponents.j0 k (bs (Cut.core a)) (bs (Cut.core b)) ((bs (Cut.core b)).toList != ([] : List UInt8)) else semantic_compareBuildComponents.j0 k (bs (Cut.core a)) (bs (Cut.core b)) false) (Cut.buildC a b)
  have last : Ev (fun k => semantic_compareBuildComponents.j1 k (bs (Cut.core a)) (bs (Cut.core b)) false) (lexL Seg.idC (Cut.cutAt 46 (Cut.core a)) (Cut.cutAt 46 (Cut.core b))) := by
    refine Ev.step (fun k => by rw [semantic_compareBuildComponents.j1]) ?_
    refine ev_neg (by simp) ?_
    rw [sp_one]
    refine (split_ev 46 _ (by omega)).bind ((split_ev 46 _ (by omega)).bind ?_)
    unfold Giv.semantic_compareSemverBuildComponents.f
    rw [if_pos ⟨fit_cut 46 _ (by omega), fit_cut 46 _ (by omega)⟩, tl_bs, tl_bs]
    exact ev_some (Ev.now _)
  unfold Cut.buildC
  by_cases h1 : Cut.core a = []
  · refine ev_pos (by rw [bs_toList]; exact h1) ?_
    refine Ev.step (fun k => by rw [semantic_compareBuildComponents.j0]) ?_
    by_cases h2 : Cut.core b = []
    · refine ev_neg (by rw [bs_toList]; simp [h2]) (ev_pos (by rw [bs_toList]; exact h1) ?_)
      rw [h1, h2, if_pos (by rfl)]
      rw [h1, h2] at last
      exact last
    · refine ev_pos (by rw [bs_toList]; simpa using h2) ?_
      rw [h1, em_nil, em_ne h2, if_neg (by decide)]
      exact Ev.now _
  · refine ev_neg (by rw [bs_toList]; exact h1) ?_
    refine Ev.step (fun k => by rw [semantic_compareBuildComponents.j0]) ?_
    refine ev_neg (by simp) (ev_neg (by rw [bs_toList]; exact h1) ?_)
    rw [em_ne h1]
    by_cases h2 : Cut.core b = []
    · have e : ((bs (Cut.core b)).toList == ([] : List UInt8)) = true := by rw [bs_toList]; simpa using h2
      rw [e]
      refine Ev.step (fun k => by rw [semantic_compareBuildComponents.j1]) ?_
      refine ev_pos rfl ?_
      rw [h2, em_nil, if_neg (by decide)]
      exact Ev.now _
    · have e : ((bs (Cut.core b)).toList == ([] : List UInt8)) = false := by rw [bs_toList]; simpa using h2
      rw [e, em_ne h2, if_pos (by rfl)]
      exact last
theorem implBuilds (a b : List UInt8) (ha : a.length ≤ 40000) (hb : b.length ≤ 40000) : Ev (fun k => impl_Builds.f k (bs a) (bs b)) (Cut.buildC a b) := by
  unfold impl_Builds.f semantic_ZZBuilds.f
  exact ((build_ev a b ha hb).bind (Ev.now _)).bind (Ev.now _)
theorem implIds' {a b : List ByteArray} (ha : fit a = true) (hb : fit b = true) : impl_Identifiers.f a b = some (lexL Seg.idC (tl a) (tl b)) := by
  unfold impl_Identifiers.f semantic_ZZIdentifiers.f Giv.semantic_compareSemverBuildComponents.f
  rw [if_pos ⟨ha, hb⟩]
  rfl
theorem wordsAwake : Ev (fun k => laws_wordsAwake.f k) true := by
  unfold laws_wordsAwake.f
  rw [implIds' (by decide) (by decide)]
  have e : lexL Seg.idC (tl [(⟨#[97]⟩ : ByteArray)]) (tl [(⟨#[98]⟩ : ByteArray)]) = -1 := by
    have l1 : tl [(⟨#[97]⟩ : ByteArray)] = [[97]] := tl_bs [[97]]
    have l2 : tl [(⟨#[98]⟩ : ByteArray)] = [[98]] := tl_bs [[98]]
    rw [l1, l2]
    decide
  rw [e]
  refine ev_some (ev_pos rfl ?_)
  have b := implBuilds [45, 97] [45, 98] (by decide) (by decide)
  have v : Cut.buildC [45, 97] [45, 98] = -1 := by decide
  rw [v] at b
  exact b.bind (Ev.now _)
end Go.Proofs.YtfgechefinijbaaDoor.QL
