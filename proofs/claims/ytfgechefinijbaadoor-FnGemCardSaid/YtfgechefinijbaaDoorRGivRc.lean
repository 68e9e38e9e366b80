/- Contract by hand: versions of RubyGems parsed and compared through the interface Version, by the printed parse. -/
import Derived.Test.YtfgechefinijbaaDoorQRx
import Derived.Test.YtfgechefinijbaaDoorZK
import Derived.Test.YtfgechefinijbaaDoorZE
import Derived.Outline
namespace Go.Proofs.YtfgechefinijbaaDoor.Giv
open Go.RowKit Go.Proofs.YtfgechefinijbaaDoorW.PrintWords Go.Proofs.YtfgechefinijbaaDoorW.PrintLast Go.Proofs.YtfgechefinijbaaDoor.Pk Go.Proofs.YtfgechefinijbaaDoor.Ord Go.Proofs.YtfgechefinijbaaDoor.QR
set_option linter.unusedVariables false
set_option linter.unusedSimpArgs false

set_option maxHeartbeats 1000000 in
theorem rubyCompare_calls (x1 y1 : ByteArray) (A1 A2 : Option Addr) (m1 m2 n1 n2 : Nat) (r : Int) (w : World) (c : ∀ w', Below w.heap.size w w' → Calls Tryd.prog 74 #[.agg #[.string x1, .slice A1 m1 n1], .agg #[.string y1, .slice A2 m2 n2]] w' fun e w'' => e = .returned (.int .i64 r) ∧ Below w'.heap.size w' w'') :
    Calls Tryd.prog 55 #[.agg #[.string x1, .slice A1 m1 n1], .iface 56 (.agg #[.string y1, .slice A2 m2 n2])] w fun e w' => e = .returned (.tuple #[.int .i64 r, .nilIface]) ∧ Below w.heap.size w w' := by
  have hta := fun v w => run_assert_is Tryd.underlying56 70 v w
  have h1 := (Below.refl w.heap.size w).alloc (Nat.le_refl _) (Obj.cells #[Value.string x1, Value.slice A1 m1 n1] 56)
  have h2 := h1.alloc h1.size (Obj.cells #[Value.string y1, Value.slice A2 m2 n2] 56)
  have c' := c _ h2
  have H2 := Aside0.mk h2
  clear h1 h2 c
  go_enter Tryd.func55, Tryd.ntmps55
  go_wp2_with (first | (go_at_call 74; refine c'.mono ?_; rintro e w1 ⟨rfl, hb1⟩))
  go_ret2
  exact ⟨rfl, H2.out.trans (hb1.mono H2.out.size)⟩
def impl_RubyCompare.f (k : Nat) (a0 a1 : ByteArray) : Option (Int × Bool) := (semantic_ParseRubyGemsVersion.f k a0).bind fun x => ((semantic_ParseRubyGemsVersion.f k a1).bind fun y => ((semantic_RubyGemsVersion_compare.f x.1 x.2 y.1 y.2).bind fun r => some (r, true)))
theorem impl_RubyCompare.mono : ∀ a0 a1 k, LeO (impl_RubyCompare.f k a0 a1) (impl_RubyCompare.f (k + 1) a0 a1) := by
  intro a0 a1 k
  unfold impl_RubyCompare.f
  exact LeO.bind (semantic_ParseRubyGemsVersion.mono _ _) (fun _ => LeO.bind (semantic_ParseRubyGemsVersion.mono _ _) (fun _ => LeO.refl _))
set_option maxHeartbeats 2000000 in
theorem impl_RubyCompare.calls (k : Nat) (a0 a1 : ByteArray) (r1 : Int) (r2 : Bool) (w : World) (h : impl_RubyCompare.f k a0 a1 = some (r1, r2)) (hL : Laid w) :
    Calls Tryd.prog 29 #[.string a0, .string a1] w fun e w' => e = .returned (.tuple #[.int .i64 r1, .bool r2]) ∧ Below w.heap.size w w' := by
  unfold impl_RubyCompare.f at h
  obtain ⟨⟨x1, x2⟩, hx, h⟩ := Option.bind_eq_some_iff.1 h
  obtain ⟨⟨y1, y2⟩, hy, h⟩ := Option.bind_eq_some_iff.1 h
  obtain ⟨r, hr, h⟩ := Option.bind_eq_some_iff.1 h
  have h := Option.some.inj h
  obtain ⟨rfl, rfl⟩ := Prod.mk.inj h
  have c1 := semantic_ParseRubyGemsVersion.calls k a0 x1 x2 w hx hL
  have c2 := fun (w1 : World) (hb : Below w.heap.size w w1) => semantic_ParseRubyGemsVersion.calls k a1 y1 y2 w1 hy (hL.below hb)
  have c3 := fun (w1 w2 : World) (v1 v2 : Value) (hb1 : Below w.heap.size w w1) (hr1 : Kd.R Kd.string 9 w1 w.heap.size (fun _ => True) v1 x2) (hb2 : Below w1.heap.size w1 w2) (hr2 : Kd.R Kd.string 9 w2 w1.heap.size (fun _ => True) v2 y2) =>
    show Calls Tryd.prog 55 #[.agg #[.string x1, v1], .iface 56 (.agg #[.string y1, v2])] w2 fun e w' => e = .returned (.tuple #[.int .i64 r, .nilIface]) ∧ Below w2.heap.size w2 w' from by
      obtain ⟨A1, n1, rfl, hn1, hc1'⟩ := Kd.R_reads (Kd.R_below hr1 hb2)
      obtain ⟨A2, n2, rfl, hn2, hc2'⟩ := Kd.R_reads hr2
      refine rubyCompare_calls x1 y1 A1 A2 _ _ n1 n2 r w2 (fun w3 hb3 => ?_)
      have hc1 := Kd.C_below hc1' hb3
      have hc2 := Kd.C_below hc2' hb3
      exact semantic_RubyGemsVersion_compare.calls x1 A1 n1 x2 y1 A2 n2 y2 r w3 hc1 hn1 hc2 hn2 hr (hL.below (hb1.trans ((hb2.mono hb1.size).trans (hb3.mono (Nat.le_trans hb1.size hb2.size)))))
  have hmi : ∀ x w, (Instr.makeInterface 56 x).run Tryd.prog w = .ok (.iface 56 x) w := fun x w => run_makeInterface w 56 x (by kernel_rfl)
  have hnn := fun w => run_nil_nil Tryd.underlying48 w
  clear hx hy hr hL
  go_enter Tryd.func29, Tryd.ntmps29
  go_wp2_with (first | (go_at_call 53; (with_reducible refine c1.mono ?_); rintro e w1 ⟨v1, rfl, hr1, hb1⟩; have B1 := Aside0.mk hb1; have R1 := Aside0.mk hr1; clear hb1 hr1) | (go_at_call 53; (with_reducible refine (c2 _ B1.out).mono ?_); rintro e w2 ⟨v2, rfl, hr2, hb2⟩; have B2 := Aside0.mk hb2; have R2 := Aside0.mk hr2; clear hb2 hr2) | (go_at_call 55; (with_reducible refine (c3 _ _ _ _ B1.out R1.out B2.out R2.out).mono ?_); rintro e w3 ⟨rfl, hb3⟩; have B3 := Aside0.mk hb3; clear hb3))
  go_quiet (fail)
  go_wp2_with fail
  go_ret2
  exact ⟨rfl, bel_drewN ((B1.out.trans (B2.out.mono B1.out.size)).trans (B3.out.mono (Nat.le_trans B1.out.size B2.out.size))) _⟩
end Go.Proofs.YtfgechefinijbaaDoor.Giv
