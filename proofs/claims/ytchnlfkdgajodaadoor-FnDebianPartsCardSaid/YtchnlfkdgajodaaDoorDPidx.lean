/- 'indexOf' of the reference. -/
import Derived.Test.YtchnlfkdgajodaaDoorZD
import Derived.Test.YtchnlfkdgajodaaDoorQDx
namespace Go.Proofs.YtchnlfkdgajodaaDoor.QD
open Go.RowKit Go.Proofs.YtchnlfkdgajodaaDoorW.PrintWords Go.Proofs.YtchnlfkdgajodaaDoorW.PrintLast Go.Proofs.YtchnlfkdgajodaaDoor.Pk Go.Proofs.YtchnlfkdgajodaaDoor.Giv
set_option linter.unusedVariables false

theorem indexOf_loop (s : ByteArray) (c : UInt8) (hs : s.size < 4611686018427387904) (d : Nat) : ∀ i : Nat, i + d = s.size → (s.toList.take i).any (fun x => x == c) = false → Ev (fun k => spec_indexOf.l0 k s (c.toNat : Int) (i : Int)) (placeOf (fun x => x == c) s.toList) := by
  induction d with
  | zero =>
    intro i hi hno
    refine Ev.step (fun k => by rw [spec_indexOf.l0]) ?_
    refine ev_neg (by omega) ?_
    rw [List.take_of_length_le (by rw [len_toList]; omega)] at hno
    have e : placeOf (fun x => x == c) s.toList = -1 := by
      unfold placeOf
      rw [hno]
      rfl
    rw [e]
    exact Ev.now _
  | succ d ih =>
    intro i hi hno
    have hlt : i < s.size := by omega
    have b := bt_nat s i hlt
    have w := wr i (by omega)
    refine Ev.step (fun k => by rw [spec_indexOf.l0, b, w]) ?_
    refine ev_pos (by omega) (ev_pos (by omega) ?_)
    by_cases h : (s[i]'hlt) = c
    · refine ev_pos (by rw [h]) ?_
      rw [placeOf_step _ s.toList i (by rw [len_toList]; exact hlt) hno (by rw [getElem_toList s i hlt, h]; simp)]
      exact Ev.now _
    · refine ev_neg (fun e => h (UInt8.toNat_inj.1 (by omega))) ?_
      refine ih (i + 1) (by omega) ?_
      rw [take_next' s i hlt, List.any_append, hno]
      simpa using h
theorem indexOf_ev (s : ByteArray) (c : UInt8) (hs : s.size < 4611686018427387904) : Ev (fun k => spec_indexOf.f k s (c.toNat : Int)) (placeOf (fun x => x == c) s.toList) := indexOf_loop s c hs s.size 0 (by omega) (by simp)
end Go.Proofs.YtchnlfkdgajodaaDoor.QD
