/- The statement FnSuffixWeight: the weight that the program gives a suffix is its place in the list of valid suffixes, for every text.
   No condition beyond those that the statement itself states. -/
import Derived.Test.YtojabknjniihmaaPFnSuffixWeightx1
namespace Go.Proofs.Ytojabknjniihmaa.Pure
open Go.RowKit Go.Proofs.Ytojabknjniihmaa.PFnSuffixWeight Go.Proofs.YtojabknjniihmaaW.PrintWords Go.Proofs.YtojabknjniihmaaW.PrintLast

namespace SuffixWeight

/-- 'short' of one text that is not long. -/
theorem short_some (a : ByteArray) : ∃ b, ∀ k, laws_short.f (k + 2) [a] = some b := by
  by_cases h : ((a.size : Int)) > 1500
  · exact ⟨false, fun k => by simp [laws_short.f, laws_short.l0, rdOf, h]⟩
  · exact ⟨true, fun k => by simp [laws_short.f, laws_short.l0, rdOf, h, wrap64]⟩

/-- The program's loop and the reference's are one. -/
theorem same (a : ByteArray) (ws : List ByteArray) (k : Nat) : ∀ i : Int, 0 ≤ i → ws.length < 1000 → i ≤ ws.length →
    semantic_weightAlpineSuffixString.l0 k a ws ws (ws.length : Int) i = spec_SuffixWeight.l0 k a ws i := by
  induction k with
  | zero => intro i _ _ _; rfl
  | succ k ih =>
    intro i h0 hw hi
    simp only [semantic_weightAlpineSuffixString.l0, spec_SuffixWeight.l0]
    by_cases h1 : i < (ws.length : Int)
    · rw [if_pos h1, if_pos h0, if_pos h1, if_pos h1, if_pos h0]
      have e : wrap64 (i + 1) = i + 1 := by unfold wrap64; omega
      rw [e, ih (i + 1) (by omega) hw (by omega)]
      by_cases h2 : a.toList = (rdOf ByteArray.empty ws i).toList
      · rw [if_pos h2, if_pos h2.symm]
      · rw [if_neg h2, if_neg (fun h => h2 h.symm)]
    · rw [if_neg h1, if_neg h1]

/-- The reference's loop comes to an end. -/
theorem ends (a : ByteArray) (ws : List ByteArray) (hw : ws.length < 1000) (d : Nat) : ∀ i : Int, 0 ≤ i → (ws.length : Int) - i = d → ∃ r, ∀ k, d < k → spec_SuffixWeight.l0 k a ws i = some r := by
  induction d with
  | zero =>
    intro i h0 hd
    refine ⟨(ws.length : Int), fun k hk => ?_⟩
    obtain ⟨k, rfl⟩ : ∃ m, k = m + 1 := ⟨k - 1, by omega⟩
    simp only [spec_SuffixWeight.l0]; rw [if_neg (by omega)]
  | succ d ih =>
    intro i h0 hd
    have e : wrap64 (i + 1) = i + 1 := by unfold wrap64; omega
    by_cases h2 : (rdOf ByteArray.empty ws i).toList = a.toList
    · refine ⟨i, fun k hk => ?_⟩
      obtain ⟨k, rfl⟩ : ∃ m, k = m + 1 := ⟨k - 1, by omega⟩
      simp only [spec_SuffixWeight.l0]; rw [if_pos (by omega), if_pos h0, if_pos h2]
    · obtain ⟨r, hr⟩ := ih (i + 1) (by omega) (by omega)
      refine ⟨r, fun k hk => ?_⟩
      obtain ⟨k, rfl⟩ : ∃ m, k = m + 1 := ⟨k - 1, by omega⟩
      simp only [spec_SuffixWeight.l0]; rw [if_pos (by omega), if_pos h0, if_neg h2, e]
      exact hr k (by omega)

end SuffixWeight

theorem FnSuffixWeight : laws_FnSuffixWeight.Pure := by
  intro a _
  refine ⟨20, ?_⟩
  unfold laws_FnSuffixWeight.f
  obtain ⟨b, hb⟩ := SuffixWeight.short_some a
  by_cases h : (a.size : Int) > 2147483647
  · rw [if_pos h]
  · rw [if_neg h, hb 18]
    cases b with
    | false => rfl
    | true =>
      simp only [Option.bind_some, if_true]
      unfold impl_SuffixWeight.f semantic_ZZAlpineWeight.f semantic_weightAlpineSuffixString.f spec_SuffixWeight.f
      simp only [Option.bind_some]
      obtain ⟨r, hr⟩ := SuffixWeight.ends a [(⟨#[97, 108, 112, 104, 97]⟩ : ByteArray), (⟨#[98, 101, 116, 97]⟩ : ByteArray), (⟨#[112, 114, 101]⟩ : ByteArray), (⟨#[114, 99]⟩ : ByteArray), (⟨#[]⟩ : ByteArray), (⟨#[99, 118, 115]⟩ : ByteArray), (⟨#[115, 118, 110]⟩ : ByteArray), (⟨#[103, 105, 116]⟩ : ByteArray), (⟨#[104, 103]⟩ : ByteArray)] (by decide) 9 0 (by omega) (by decide)
      rw [SuffixWeight.same a _ 20 0 (by omega) (by decide) (by decide), hr 20 (by omega)]
      simp

end Go.Proofs.Ytojabknjniihmaa.Pure
