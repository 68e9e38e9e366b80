/- Contracts by hand: local versions of PyPI compared, from the statements' side. -/
import Derived.Test.YtchbfjjeodnocaaDoorGivPp
namespace Go.Proofs.YtchbfjjeodnocaaDoor.Giv
open Go.RowKit Go.Proofs.YtchbfjjeodnocaaDoorW.PrintWords Go.Proofs.YtchbfjjeodnocaaDoorW.PrintLast Go.Proofs.YtchbfjjeodnocaaDoor.Pk Go.Proofs.YtchbfjjeodnocaaDoor.Ord
set_option linter.unusedVariables false
set_option linter.unusedSimpArgs false
set_option maxRecDepth 100000 in
set_option maxHeartbeats 4000000 in
theorem zzLocal_calls (q0 q1 : Nat) (a b : List ByteArray) (A0 A1 : Option Addr) (c0 c1 : Nat) (w : World) (hr0 : Kd.C Kd.string w A0 a.length a) (hr1 : Kd.C Kd.string w A1 b.length b) (ha : fit a = true) (hb : fit b = true) (hL : Laid w) :
    Calls Tryd.prog 72 #[.agg (loA (.pointer (some ⟨q0, 0, none⟩)) A0 a.length c0), .agg (loA (.pointer (some ⟨q1, 0, none⟩)) A1 b.length c1)] w fun e w' => e = .returned (.int .i64 (lexL pyC (tl a) (tl b))) ∧ Below w.heap.size w w' := by
  have lc := fun (w' : World) (d : Below w.heap.size w w') => local_calls (.pointer (some ⟨q0, 0, none⟩)) (.pointer (some ⟨q1, 0, none⟩)) a b A0 A1 c0 c1 w' (Kd.C_below hr0 d) (Kd.C_below hr1 d) ha hb (hL.below d)
  have b2 := Aside0.mk (below_alloc (below_alloc (Below.refl w.heap.size w) (Obj.cells (loA (.pointer (some ⟨q0, 0, none⟩)) A0 a.length c0) 96)) (Obj.cells (loA (.pointer (some ⟨q1, 0, none⟩)) A1 b.length c1) 96))
  clear hr0 hr1 ha hb hL
  go_enter Tryd.func72, Tryd.ntmps72
  go_wp2_with (first | (go_at_call 110; refine (lc _ b2.out).mono ?_; rintro e w1 ⟨rfl, d1⟩; have D1 := Aside0.mk (below_then b2.out b2.out.size d1); clear d1))
  go_ret
  exact ⟨rfl, D1.out⟩
set_option maxRecDepth 100000 in
set_option maxHeartbeats 4000000 in
theorem implLocal_calls (a b : List ByteArray) (A0 A1 : Option Addr) (c0 c1 : Nat) (w : World) (hr0 : Kd.C Kd.string w A0 a.length a) (hr1 : Kd.C Kd.string w A1 b.length b) (ha : fit a = true) (hb : fit b = true) (hL : Laid w) :
    Calls Tryd.prog 33 #[.slice A0 a.length c0, .slice A1 b.length c1] w fun e w' => e = .returned (.int .i64 (lexL pyC (tl a) (tl b))) ∧ Below w.heap.size w w' := by
  have p0 := fun w' => implPypi_calls A0 a.length c0 w'
  have p1 := fun w' => implPypi_calls A1 b.length c1 w'
  have lc := fun (q0 q1 : Nat) (w' : World) (d : Below w.heap.size w w') => zzLocal_calls q0 q1 a b A0 A1 c0 c1 w' (Kd.C_below hr0 d) (Kd.C_below hr1 d) ha hb (hL.below d)
  clear hr0 hr1 ha hb hL
  go_enter Tryd.func33, Tryd.ntmps33
  go_wp2_with (first | (go_at_call 73; refine (p0 _).mono ?_; rintro e w1 ⟨q0, rfl, d1⟩; have D1 := Aside0.mk d1; clear d1 p0) | (go_at_call 73; refine (p1 _).mono ?_; rintro e w2 ⟨q1, rfl, d2⟩; have D2 := Aside0.mk (below_then D1.out D1.out.size d2); clear d2 p1) | (go_at_call 72; refine (lc _ _ _ D2.out).mono ?_; rintro e w3 ⟨rfl, d3⟩; have D3 := Aside0.mk (below_then D2.out D2.out.size d3); clear d3))
  go_ret
  exact ⟨rfl, D3.out⟩
def impl_PyPILocal.f (l0 l1 : List ByteArray) : Option Int := if fit l0 = true ∧ fit l1 = true then some (lexL pyC (tl l0) (tl l1)) else none
theorem impl_PyPILocal.calls (A0 : Option Addr) (c0 : Nat) (l0 : List ByteArray) (A1 : Option Addr) (c1 : Nat) (l1 : List ByteArray) (r : Int) (w : World) (hr0 : Kd.C Kd.string w A0 l0.length l0) (hc0 : l0.length ≤ c0) (hr1 : Kd.C Kd.string w A1 l1.length l1) (hc1 : l1.length ≤ c1) (h : impl_PyPILocal.f l0 l1 = some r) (hL : Laid w) :
    Calls Tryd.prog 33 #[.slice A0 l0.length c0, .slice A1 l1.length c1] w fun e w' => e = .returned (.int .i64 r) ∧ Below w.heap.size w w' := by
  unfold impl_PyPILocal.f at h
  split at h
  · next hc =>
    obtain rfl := Option.some.inj h
    exact implLocal_calls l0 l1 A0 A1 c0 c1 w hr0 hr1 hc.1 hc.2 hL
  · exact absurd h (by simp)
theorem pyC_fun : pyC = Seg.segC := funext fun x => funext fun y => pyC_seg x y
end Go.Proofs.YtchbfjjeodnocaaDoor.Giv
