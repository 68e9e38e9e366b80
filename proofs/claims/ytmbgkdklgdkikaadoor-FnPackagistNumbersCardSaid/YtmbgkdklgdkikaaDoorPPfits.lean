/- Lists of texts: each is small enough to be told. -/
import Derived.Test.YtmbgkdklgdkikaaDoorPPseg
import Derived.Test.YtmbgkdklgdkikaaDoorZD
import Derived.Test.YtmbgkdklgdkikaaDoorZA
import Derived.Test.YtmbgkdklgdkikaaDoorPPshort
import Derived.Test.YtmbgkdklgdkikaaDoorQPx
namespace Go.Proofs.YtmbgkdklgdkikaaDoor.QP
open Go.RowKit Go.Proofs.YtmbgkdklgdkikaaDoorW.PrintWords Go.Proofs.YtmbgkdklgdkikaaDoorW.PrintLast Go.Proofs.YtmbgkdklgdkikaaDoor.Pk Go.Proofs.YtmbgkdklgdkikaaDoor.Giv Go.Proofs.YtmbgkdklgdkikaaDoor.Ord
set_option linter.unusedVariables false

theorem fits_loop (l : List ByteArray) (hl : l.length < 4611686018427387904) (d : Nat) : ∀ i : Nat, i + d = l.length → Tm (fun k => laws_zzFits1.l0 k l (l.length : Int) (i : Int)) := by
  induction d with
  | zero =>
    intro i hi
    refine Tm.step (fun k => by rw [laws_zzFits1.l0]) ?_
    exact Tm.ite (fun h => absurd h (by omega)) (fun _ => Tm.now _)
  | succ d ih =>
    intro i hi
    have w := wr i (by omega)
    refine Tm.step (fun k => by rw [laws_zzFits1.l0, w]) ?_
    refine Tm.ite (fun _ => Tm.ite (fun _ => Tm.ite (fun _ => Tm.ite (fun _ => Tm.now _) (fun _ => ?_)) (fun h => absurd (by omega) h)) (fun h => absurd (by omega) h)) (fun h => absurd (by omega) h)
    exact ih (i + 1) (by omega)
/-- Fits: it tells, and a list that fits is not long. -/
theorem fits_ev (l : List ByteArray) : ∃ b, Ev (fun k => laws_zzFits1.f k l) b ∧ (b = true → l.length ≤ 2147483647) := by
  unfold laws_zzFits1.f
  by_cases h : (l.length : Int) > 2147483647
  · exact ⟨false, ev_pos h (Ev.now _), fun e => by cases e⟩
  · obtain ⟨b, e⟩ := fits_loop l (by omega) l.length 0 (by omega)
    exact ⟨b, ev_neg h e, fun _ => by omega⟩
end Go.Proofs.YtmbgkdklgdkikaaDoor.QP
