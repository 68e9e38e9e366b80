/- Contract by hand in the print's form: impl.DebianParts. The errors are laid. -/
import Derived.Test.YtchnlfkdgajodaaDoorMGivDd
namespace Go.Proofs.YtchnlfkdgajodaaDoor.Giv
open Go.RowKit Go.Proofs.YtchnlfkdgajodaaDoorW.PrintWords Go.Proofs.YtchnlfkdgajodaaDoorW.PrintLast Go.Proofs.YtchnlfkdgajodaaDoor.Pk Go.Proofs.YtchnlfkdgajodaaDoor.Ord
set_option linter.unusedVariables false
set_option linter.unusedSimpArgs false
theorem zzDebParts_calls (a b : List UInt8) (w : World) (ha : okB a = true) (hb : okB b = true) (hL : Laid w) :
    Calls Tryd.prog 13 #[.string (bs a), .string (bs b)] w fun e w' => e = .returned (.tuple #[.int .i64 (Deb.debC a b), .nilIface]) ∧ Below w.heap.size w w' := by
  have c := debComp_calls a b w ha hb hL
  clear ha hb hL
  go_enter Tryd.func13, Tryd.ntmps13
  go_wp2_with (first | (go_at_call 20; (with_reducible refine c.mono ?_); rintro e w1 ⟨rfl, d1⟩))
  exact bodyPost_ret (results_list (rs := [.tmp 4, .tmp 5]) rfl (by simp) (.tmp (.tmp .nil))) rfl ⟨rfl, d1⟩
theorem implDebParts_calls (a b : List UInt8) (w : World) (ha : okB a = true) (hb : okB b = true) (hL : Laid w) :
    Calls Tryd.prog 7 #[.string (bs a), .string (bs b)] w fun e w' => e = .returned (.tuple #[.int .i64 (Deb.debC a b), .bool true]) ∧ Below w.heap.size w w' := by
  have c := zzDebParts_calls a b w ha hb hL
  clear ha hb hL
  go_enter Tryd.func7, Tryd.ntmps7
  go_wp2_with (first | (go_at_call 13; (with_reducible refine c.mono ?_); rintro e w1 ⟨rfl, d1⟩))
  have D1 := Aside0.mk d1
  clear d1
  go_region
  all_goals
    go_wp2_with fail
    exact bodyPost_ret (results_list (rs := [.tmp 4, .tmp 5]) rfl (by simp) (.tmp (.tmp .nil))) rfl ⟨rfl, Below.drew D1.out⟩
def impl_DebianParts.f (a0 a1 : ByteArray) : Option (Int × Bool) := if okB a0.toList = true ∧ okB a1.toList = true then some (Deb.debC a0.toList a1.toList, true) else none
theorem impl_DebianParts.calls (a0 a1 : ByteArray) (r : Int) (s : Bool) (w : World) (h : impl_DebianParts.f a0 a1 = some (r, s)) (hL : Laid w) :
    Calls Tryd.prog 7 #[.string a0, .string a1] w fun e w' => e = .returned (.tuple #[.int .i64 r, .bool s]) ∧ Below w.heap.size w w' := by
  unfold impl_DebianParts.f at h
  split at h
  · next hc =>
    have h := Option.some.inj h
    injection h with h1 h2
    subst h1 h2
    have := implDebParts_calls a0.toList a1.toList w hc.1 hc.2 hL
    rwa [← bs_of, ← bs_of] at this
  · exact absurd h (by simp)
end Go.Proofs.YtchnlfkdgajodaaDoor.Giv
