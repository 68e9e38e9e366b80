/- What the program answers: segments of versions of RubyGems. -/
import Derived.Test.YtfgechefinijbaaDoorZK
import Derived.Test.YtfgechefinijbaaDoorRPsp
import Derived.Test.YtfgechefinijbaaDoorQRx
namespace Go.Proofs.YtfgechefinijbaaDoor.QR
open Go.RowKit Go.Proofs.YtfgechefinijbaaDoorW.PrintWords Go.Proofs.YtfgechefinijbaaDoorW.PrintLast Go.Proofs.YtfgechefinijbaaDoor.Pk Go.Proofs.YtfgechefinijbaaDoor.Giv Go.Proofs.YtfgechefinijbaaDoor.Ord Go.Proofs.YtfgechefinijbaaDoor.Canon
set_option linter.unusedVariables false

theorem trimRd (l : List ByteArray) (n : Nat) (h : n < l.length) : rdOf ByteArray.empty l (n : Int) = l.getD n ⟨#[]⟩ := by
  rw [rdOf_nat _ _ n h, List.getD_eq_getElem?_getD, List.getElem?_eq_getElem h]
  rfl
theorem mx_nat (n : Nat) : mx (n : Int) 0 = (n : Int) := by unfold mx; split <;> omega
theorem mx_neg : mx (((0 : Nat) : Int) - 1) 0 = ((0 : Nat) : Int) := by decide
theorem rz_loop (l : List ByteArray) (hl : l.length < 8796093022207) : ∀ n : Nat, n ≤ l.length → Ev (fun k => semantic_removeZeros.l0 k l ((n : Int) - 1)) (l.take (cutZ l n))
  | 0, _ => by
    refine Ev.step (fun k => by rw [semantic_removeZeros.l0, mx_neg]) ?_
    exact ev_neg (by omega) (ev_pos (by omega) (ev_pos (by omega) (Ev.now _)))
  | n + 1, h => by
    have e : ((n + 1 : Nat) : Int) - 1 = (n : Int) := by omega
    have w : wrap64 ((n : Int) - 1) = (n : Int) - 1 := by unfold wrap64; omega
    have w1 : wrap64 ((n : Int) + 1) = ((n + 1 : Nat) : Int) := wr n (by omega)
    have r := trimRd l n (by omega)
    rw [e]
    refine Ev.step (fun k => by rw [semantic_removeZeros.l0, w, r, w1, mx_nat]) ?_
    refine ev_pos (by omega) (ev_pos (by omega) (ev_pos (by omega) ?_))
    unfold cutZ
    by_cases hz : (l.getD n ⟨#[]⟩).toList = [48]
    · rw [if_pos hz]
      exact ev_pos hz (rz_loop l hl n (by omega))
    · rw [if_neg hz]
      refine ev_neg hz (ev_pos (by omega) (ev_pos (by omega) ?_))
      rw [Int.toNat_natCast]
      exact Ev.now _
theorem rz_ev (l : List ByteArray) (hl : l.length < 8796093022207) : Ev (fun k => semantic_removeZeros.f k l) (trimZ l) := by
  have w : wrap64 ((l.length : Int) - 1) = (l.length : Int) - 1 := by unfold wrap64; omega
  unfold semantic_removeZeros.f
  rw [w]
  exact rz_loop l hl l.length (Nat.le_refl _)
/-- A version's pieces between points. -/
def pieces (s : ByteArray) : List ByteArray := (Cut.cutAt 46 (canonS s)).map bs
/-- A version's segments. -/
def rubySegs (s : ByteArray) : List ByteArray := trimZ ((pieces s).takeWhile isNum) ++ trimZ ((pieces s).dropWhile isNum)
theorem pieces_small (s : ByteArray) (hs : s.size ≤ 1500) : (pieces s).length ≤ 7501 ∧ ∀ x ∈ pieces s, x.size ≤ 7500 := by
  have c := canonS_len s
  obtain ⟨a, b⟩ := Cut.cutAt_sizes 46 (canonS s)
  refine ⟨by unfold pieces; rw [List.length_map]; omega, fun x h => ?_⟩
  obtain ⟨y, hy, rfl⟩ := List.mem_map.1 h
  rw [bs_size]
  have := b y hy
  omega
theorem pieces_fit (s : ByteArray) (hs : s.size ≤ 1500) : fit (pieces s) = true := by
  obtain ⟨a, b⟩ := pieces_small s hs
  unfold fit
  rw [Bool.and_eq_true, List.all_eq_true]
  exact ⟨decide_eq_true (by omega), fun x hx => decide_eq_true (by have := b x hx; omega)⟩
theorem segs_mem {s x : ByteArray} (h : x ∈ rubySegs s) : x ∈ pieces s := by
  rcases List.mem_append.1 h with h | h
  · exact List.Sublist.subset (List.takeWhile_sublist _) (trimZ_mem h)
  · exact List.Sublist.subset (List.dropWhile_sublist _) (trimZ_mem h)
theorem segs_len (s : ByteArray) : (rubySegs s).length ≤ 2 * (pieces s).length := by
  unfold rubySegs
  rw [List.length_append]
  have a := trimZ_len ((pieces s).takeWhile isNum)
  have b := trimZ_len ((pieces s).dropWhile isNum)
  have c := List.Sublist.length_le (List.takeWhile_sublist isNum (l := pieces s))
  have d := List.Sublist.length_le (List.dropWhile_sublist isNum (l := pieces s))
  omega
theorem segs_fit (s : ByteArray) (hs : s.size ≤ 1500) : fit (rubySegs s) = true := by
  obtain ⟨a, b⟩ := pieces_small s hs
  have c := segs_len s
  unfold fit
  rw [Bool.and_eq_true, List.all_eq_true]
  exact ⟨decide_eq_true (by omega), fun x hx => decide_eq_true (by have := b x (segs_mem hx); omega)⟩
theorem rubyParse_ev (s : ByteArray) (hs : s.size ≤ 1500) : Ev (fun k => semantic_ParseRubyGemsVersion.f k s) (s, rubySegs s) := by
  have c := canonS_len s
  obtain ⟨pl, pm⟩ := pieces_small s hs
  have sp := split_ev 46 (canonS s) (by omega)
  have e1 : Giv.semantic_canonicalizeRubyGemVersion.f s = some ⟨(canonS s).toArray⟩ := by
    unfold Giv.semantic_canonicalizeRubyGemVersion.f
    rw [if_pos (by omega)]
  have e2 : Giv.semantic_groupSegments.f (pieces s) = some ((pieces s).takeWhile isNum, (pieces s).dropWhile isNum) := by
    unfold Giv.semantic_groupSegments.f
    rw [if_pos (pieces_fit s hs)]
  have c1 := List.Sublist.length_le (List.takeWhile_sublist isNum (l := pieces s))
  have c2 := List.Sublist.length_le (List.dropWhile_sublist isNum (l := pieces s))
  unfold semantic_ParseRubyGemsVersion.f
  rw [e1]
  refine ev_some ?_
  rw [sp_one]
  have cs : Ev (fun k => semantic_canonicalSegments.f k (pieces s)) (rubySegs s) := by
    unfold semantic_canonicalSegments.f
    rw [e2]
    refine ev_some ((rz_ev ((pieces s).takeWhile isNum) (by omega)).bind ((rz_ev ((pieces s).dropWhile isNum) (by omega)).bind (ev_pos ?_ (Ev.now _))))
    have a := trimZ_len ((pieces s).takeWhile isNum)
    have b := trimZ_len ((pieces s).dropWhile isNum)
    omega
  exact sp.bind (cs.bind (Ev.now _))
theorem rubyCompare_ev (a b : ByteArray) (ha : a.size ≤ 1500) (hb : b.size ≤ 1500) : semantic_RubyGemsVersion_compare.f a (rubySegs a) b (rubySegs b) = some (padL Seg.segC [48] (tl (rubySegs a)) (tl (rubySegs b))) := by
  unfold semantic_RubyGemsVersion_compare.f Giv.semantic_compareRubyGemsComponents.f
  rw [if_pos ⟨segs_fit a ha, segs_fit b hb⟩]
  rfl
end Go.Proofs.YtfgechefinijbaaDoor.QR
