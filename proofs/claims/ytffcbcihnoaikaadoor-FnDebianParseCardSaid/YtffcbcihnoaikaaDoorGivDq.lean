/- Contract by hand: impl.DebianParse. The errors and the table of blanks are laid. -/
import Derived.Test.YtffcbcihnoaikaaDoorGivDy
namespace Go.Proofs.YtffcbcihnoaikaaDoor.Giv
open Go.RowKit Go.Proofs.YtffcbcihnoaikaaDoorW.PrintWords Go.Proofs.YtffcbcihnoaikaaDoorW.PrintLast Go.Proofs.YtffcbcihnoaikaaDoor.Pk Go.Proofs.YtffcbcihnoaikaaDoor.Ord
set_option linter.unusedVariables false
set_option linter.unusedSimpArgs false
set_option maxRecDepth 100000 in
set_option maxHeartbeats 4000000 in
theorem idp_err (a : List UInt8) (w : World) (ha : okB a = true) (hp : dvL a = none) (hL : LaidD w) :
    Calls Tryd.prog 9 #[.string (bs a)] w fun e w' => e = .returned (.tuple #[.agg #[.bool false, .string ⟨#[]⟩, .string ⟨#[]⟩, .string ⟨#[]⟩], .bool false]) ∧ Below w.heap.size w w' := by
  have al := below_alloc (Below.refl w.heap.size w) (Obj.cells #[Value.bool false, .string ⟨#[]⟩, .string ⟨#[]⟩, .string ⟨#[]⟩] 27)
  have AL := Aside0.mk al
  have K0 := Aside0.mk (blk_new w (Obj.cells #[Value.bool false, .string ⟨#[]⟩, .string ⟨#[]⟩, .string ⟨#[]⟩] 27))
  have pc := parseDeb_err a ha hp _ (hL.below al)
  clear al hL ha hp
  go_enter Tryd.func9, Tryd.ntmps9
  go_wp2_with (first | (go_at_call 19; (with_reducible refine pc.mono ?_); rintro e w1 ⟨a1, rfl, d1⟩; have D1 := Aside0.mk (below_then AL.out AL.out.size d1); have K1 := Aside0.mk ((d1.block _ (blk_lt K0.out)).trans K0.out); have p0 := blk_cell K1.out 0; have p1 := blk_cell K1.out 1; have p2 := blk_cell K1.out 2; have p3 := blk_cell K1.out 3; have f0 := Lib.frozen_of_heap K1.out 0; have f1 := Lib.frozen_of_heap K1.out 1; have f2 := Lib.frozen_of_heap K1.out 2; have f3 := Lib.frozen_of_heap K1.out 3; have lt0 := blk_lt K1.out; clear d1 pc))
  have FN := dy_four (.bool false) (.string ⟨#[]⟩) (.string ⟨#[]⟩) (.string ⟨#[]⟩) K1.out D1.out (Nat.le_refl _)
  exact bodyPost_ret (results_list (rs := [.cell 2 27, .tmp 3]) rfl (by simp) (.cell w.heap.size 27 #[.bool false, .string ⟨#[]⟩, .string ⟨#[]⟩, .string ⟨#[]⟩] (0, 0) _ rfl (blk_alloc FN.1 _) Tryd.underlying27 rfl (by kernel_rfl) (.tmp .nil))) rfl ⟨rfl, below_alloc FN.2 _⟩
set_option maxRecDepth 100000 in
set_option maxHeartbeats 4000000 in
theorem idp_ok (a : List UInt8) (p : Int × List UInt8 × List UInt8) (w : World) (ha : okB a = true) (hp : dvL a = some p) (hL : LaidD w) :
    Calls Tryd.prog 9 #[.string (bs a)] w fun e w' => e = .returned (.tuple #[.agg #[.bool (decide (p.1 < 0)), .string (bs (Lb.mag p.1.natAbs)), .string (bs p.2.1), .string (bs p.2.2)], .bool true]) ∧ Below w.heap.size w w' := by
  have al := below_alloc (Below.refl w.heap.size w) (Obj.cells #[Value.bool false, .string ⟨#[]⟩, .string ⟨#[]⟩, .string ⟨#[]⟩] 27)
  have AL := Aside0.mk al
  have K0 := Aside0.mk (blk_new w (Obj.cells #[Value.bool false, .string ⟨#[]⟩, .string ⟨#[]⟩, .string ⟨#[]⟩] 27))
  have p1 := parseDeb_ok a ha p hp _ (hL.below al)
  have tc := fun (b : Nat) (w' : World) (h : IsBig w' b p.1) => debTold_calls b p.1 (bs p.2.1) (bs p.2.2) w' h
  clear al hL ha hp
  generalize decide (p.1 < 0) = ng at *
  generalize bs (Lb.mag p.1.natAbs) = mg at *
  generalize bs p.2.1 = pu at *
  generalize bs p.2.2 = pr at *
  go_enter Tryd.func9, Tryd.ntmps9
  go_wp2_with (first | (go_at_call 19; (with_reducible refine p1.mono ?_); rintro e w1 ⟨b1, rfl, q1, d1⟩; have D1 := Aside0.mk (below_then AL.out AL.out.size d1); have K1 := Aside0.mk ((d1.block _ (blk_lt K0.out)).trans K0.out); have Q1 := Aside0.mk q1; clear d1 p1 q1) | (go_at_call 20; (with_reducible refine (tc _ _ (Q1.out.below (below_alloc (Below.refl _ _) _))).mono ?_); rintro e w2 ⟨rfl, d2⟩; have D2 := Aside0.mk (below_then (below_alloc D1.out (Obj.cells #[Value.pointer (some ⟨b1, 0, none⟩), .string pu, .string pr] 40)) (below_alloc D1.out (Obj.cells #[Value.pointer (some ⟨b1, 0, none⟩), .string pu, .string pr] 40)).size d2); have K2 := Aside0.mk ((d2.block _ (blk_lt (blk_alloc K1.out (Obj.cells #[Value.pointer (some ⟨b1, 0, none⟩), .string pu, .string pr] 40)))).trans (blk_alloc K1.out (Obj.cells #[Value.pointer (some ⟨b1, 0, none⟩), .string pu, .string pr] 40))); have p0 := blk_cell K2.out 0; have p1 := blk_cell K2.out 1; have p2 := blk_cell K2.out 2; have p3 := blk_cell K2.out 3; have f0 := Lib.frozen_of_heap K2.out 0; have f1 := Lib.frozen_of_heap K2.out 1; have f2 := Lib.frozen_of_heap K2.out 2; have f3 := Lib.frozen_of_heap K2.out 3; have lt0 := blk_lt K2.out; clear d2 tc))
  have FN := dy_four (.bool ng) (.string mg) (.string pu) (.string pr) K2.out D2.out (Nat.le_refl _)
  exact bodyPost_ret (results_list (rs := [.cell 2 27, .tmp 3]) rfl (by simp) (.cell w.heap.size 27 #[.bool ng, .string mg, .string pu, .string pr] (0, 0) _ rfl (blk_alloc FN.1 _) Tryd.underlying27 rfl (by kernel_rfl) (.tmp .nil))) rfl ⟨rfl, below_alloc FN.2 _⟩
/-- What the thin package answers of a version. -/
def impl_DebianParse.f (a0 : ByteArray) : Option (Bool × ByteArray × ByteArray × ByteArray × Bool) := if okB a0.toList = true then (match dvL a0.toList with | some p => some (decide (p.1 < 0), bs (Lb.mag p.1.natAbs), bs p.2.1, bs p.2.2, true) | none => some (false, ⟨#[]⟩, ⟨#[]⟩, ⟨#[]⟩, false)) else none
theorem impl_DebianParse.calls (a0 : ByteArray) (r1 : Bool) (r2 r3 r4 : ByteArray) (r5 : Bool) (w : World) (h : impl_DebianParse.f a0 = some (r1, r2, r3, r4, r5)) (hL : LaidD w) :
    Calls Tryd.prog 9 #[.string a0] w fun e w' => e = .returned (.tuple #[.agg #[.bool r1, .string r2, .string r3, .string r4], .bool r5]) ∧ Below w.heap.size w w' := by
  unfold impl_DebianParse.f at h
  split at h
  · next hc =>
    cases h0 : dvL a0.toList with
    | none =>
      rw [h0] at h
      have h := Option.some.inj h
      injection h with e1 h
      injection h with e2 h
      injection h with e3 h
      injection h with e4 e5
      subst e1 e2 e3 e4 e5
      have := idp_err a0.toList w hc h0 hL
      rwa [← bs_of] at this
    | some p =>
      rw [h0] at h
      have h := Option.some.inj h
      injection h with e1 h
      injection h with e2 h
      injection h with e3 h
      injection h with e4 e5
      subst e1 e2 e3 e4 e5
      have := idp_ok a0.toList p w hc h0 hL
      rwa [← bs_of] at this
  · exact absurd h (by simp)
end Go.Proofs.YtffcbcihnoaikaaDoor.Giv
