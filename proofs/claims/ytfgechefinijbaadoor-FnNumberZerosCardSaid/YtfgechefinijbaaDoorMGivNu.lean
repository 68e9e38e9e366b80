/- Contract by hand: a text read as a number, as plain data. -/
import Derived.Test.YtfgechefinijbaaDoorMGivBy
import Derived.Outline
namespace Go.Proofs.YtfgechefinijbaaDoor.Giv
open Go.RowKit Go.Proofs.YtfgechefinijbaaDoorW.PrintWords Go.Proofs.YtfgechefinijbaaDoorW.PrintLast Go.Proofs.YtfgechefinijbaaDoor.Pk Go.Proofs.YtfgechefinijbaaDoor.Ord Go.Proofs.YtfgechefinijbaaDoor.QM
set_option linter.unusedVariables false
set_option linter.unusedSimpArgs false

set_option maxHeartbeats 1000000 in
set_option maxRecDepth 100000 in
theorem zzNumber_some (s : ByteArray) (w : World) (z : Int) (hs : s.size ≤ 40000) (hL : Laid w) (hp : Num.parse s.toList = some z) :
    Calls Tryd.prog 41 #[.string s] w fun e w' => e = .returned (.tuple #[.agg #[.bool (decide (z < 0)), .string (bs (Lb.mag z.natAbs))], .nilIface]) ∧ Below w.heap.size w w' := by
  have al := below_alloc (Below.refl w.heap.size w) (Obj.cells #[Value.bool false, Value.string ⟨#[]⟩] 46)
  have AL := Aside0.mk al
  have K0 := Aside0.mk (blk_new w (Obj.cells #[Value.bool false, Value.string ⟨#[]⟩] 46))
  have c1 := conv_some s (w.alloc (Obj.cells #[Value.bool false, Value.string ⟨#[]⟩] 46)) z hs (hL.below al) hp
  have c2 := fun (b : Nat) (w' : World) (h : IsBig w' b z) => plain_calls z b w' h
  clear al hL hp
  generalize decide (z < 0) = ng at *
  generalize bs (Lb.mag z.natAbs) = mg at *
  go_enter Tryd.func41, Tryd.ntmps41
  go_wp2_with (first | (go_at_call 66; (with_reducible refine c1.mono ?_); rintro e w1 ⟨b, rfl, hb, d1⟩; have D1 := Aside0.mk (below_then AL.out AL.out.size d1); have K1 := Aside0.mk ((d1.block _ (blk_lt K0.out)).trans K0.out); have HB := Aside0.mk hb; clear hb d1) | (go_at_call 67; (with_reducible refine (c2 _ _ HB.out).mono ?_); rintro e w2 ⟨rfl, d2⟩; have D2 := Aside0.mk (below_then D1.out D1.out.size d2); have k2 := (d2.block _ (blk_lt K1.out)).trans K1.out; have p0 := blk_cell k2 0; have p1 := blk_cell k2 1; have f0 := Lib.frozen_of_heap k2 0; have f1 := Lib.frozen_of_heap k2 1; have K2 := Aside0.mk k2; clear d2 k2))
  refine bodyPost_ret (results_list (rs := [.cell 2 46, .tmp 3]) rfl (by simp) (.cell w.heap.size 46 #[.bool ng, .string mg] (0, 0) _ rfl (blk_put (cs := #[.bool ng, .string (⟨#[]⟩ : ByteArray)]) (blk_put (cs := #[.bool false, .string (⟨#[]⟩ : ByteArray)]) K2.out 0 _ rfl) 1 _ rfl) Tryd.underlying46 rfl (by kernel_rfl) (.tmp .nil))) rfl ?_
  exact ⟨rfl, (D2.out.setCell (Nat.le_refl _) _).setCell (Nat.le_refl _) _⟩
set_option maxHeartbeats 1000000 in
set_option maxRecDepth 100000 in
theorem implNumber_some (s : ByteArray) (w : World) (z : Int) (hs : s.size ≤ 40000) (hL : Laid w) (hp : Num.parse s.toList = some z) :
    Calls Tryd.prog 15 #[.string s] w fun e w' => e = .returned (.tuple #[.agg #[.bool (decide (z < 0)), .string (bs (Lb.mag z.natAbs))], .bool true]) ∧ Below w.heap.size w w' := by
  have al := below_alloc (Below.refl w.heap.size w) (Obj.cells #[Value.bool false, Value.string ⟨#[]⟩] 24)
  have AL := Aside0.mk al
  have K0 := Aside0.mk (blk_new w (Obj.cells #[Value.bool false, Value.string ⟨#[]⟩] 24))
  have c1 := zzNumber_some s (w.alloc (Obj.cells #[Value.bool false, Value.string ⟨#[]⟩] 24)) z hs (hL.below al) hp
  clear al hL hp
  generalize decide (z < 0) = ng at *
  generalize bs (Lb.mag z.natAbs) = mg at *
  go_enter Tryd.func15, Tryd.ntmps15
  go_wp2_with (first | (go_at_call 41; (with_reducible refine c1.mono ?_); rintro e w1 ⟨rfl, d1⟩; have D1 := Aside0.mk (below_then AL.out AL.out.size d1); have k1 := (d1.block _ (blk_lt K0.out)).trans K0.out; have lt1 := blk_lt k1; have p0 := blk_cell k1 0; have p1 := blk_cell k1 1; have f0 := Lib.frozen_of_heap k1 0; have f1 := Lib.frozen_of_heap k1 1; have K1 := Aside0.mk k1; clear d1 k1))
  refine bodyPost_ret (results_list (rs := [.cell 2 24, .tmp 3]) rfl (by simp) (.cell w.heap.size 24 #[.bool ng, .string mg] (0, 0) _ rfl (blk_alloc (blk_put (cs := #[.bool ng, .string (⟨#[]⟩ : ByteArray)]) (blk_put (cs := #[.bool false, .string (⟨#[]⟩ : ByteArray)]) K1.out 0 _ rfl) 1 _ rfl) _) Tryd.underlying24 rfl (by kernel_rfl) (.tmp .nil))) rfl ?_
  exact ⟨rfl, below_alloc ((D1.out.setCell (Nat.le_refl _) _).setCell (Nat.le_refl _) _) _⟩
def impl_Number.f (a0 : ByteArray) : Option (Bool × ByteArray × Bool) := if a0.size ≤ 40000 then (match Num.parse a0.toList with | some z => some (decide (z < 0), bs (Lb.mag z.natAbs), true) | none => none) else none
theorem impl_Number.calls (a0 : ByteArray) (r1 : Bool) (r2 : ByteArray) (r3 : Bool) (w : World) (h : impl_Number.f a0 = some (r1, r2, r3)) (hL : Laid w) :
    Calls Tryd.prog 15 #[.string a0] w fun e w' => e = .returned (.tuple #[.agg #[.bool r1, .string r2], .bool r3]) ∧ Below w.heap.size w w' := by
  unfold impl_Number.f at h
  split at h
  · next hc =>
    cases hp : Num.parse a0.toList with
    | none =>
      rw [hp] at h
      exact absurd h (by simp)
    | some z =>
      rw [hp] at h
      have h := Option.some.inj h
      simp only [Prod.mk.injEq] at h
      obtain ⟨rfl, rfl, rfl⟩ := h
      exact implNumber_some a0 w z hc hL hp
  · exact absurd h (by simp)
end Go.Proofs.YtfgechefinijbaaDoor.Giv
