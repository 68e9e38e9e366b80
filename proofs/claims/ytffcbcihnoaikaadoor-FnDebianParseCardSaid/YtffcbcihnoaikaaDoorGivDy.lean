/- Contracts by hand: a Debian version told as plain data: impl.DebianParse. -/
import Derived.Test.YtffcbcihnoaikaaDoorZV
import Derived.Test.YtffcbcihnoaikaaDoorMGivBy
import Derived.Deep.RegionHeld3
import Derived.Outline
namespace Go.Proofs.YtffcbcihnoaikaaDoor.Giv
open Go.RowKit Go.Proofs.YtffcbcihnoaikaaDoorW.PrintWords Go.Proofs.YtffcbcihnoaikaaDoorW.PrintLast Go.Proofs.YtffcbcihnoaikaaDoor.Pk Go.Proofs.YtffcbcihnoaikaaDoor.Ord
set_option linter.unusedVariables false
set_option linter.unusedSimpArgs false
theorem dy_fin {w0 w : World} {h : Nat} (x y : Value) (hk : w.heap[h]? = some (Obj.cells #[Value.bool false, .string ⟨#[]⟩] 45 (0, 0))) (hB : Below w0.heap.size w0 w) (hh : w0.heap.size ≤ h) :
    ((w.setCell ⟨h, 0, none⟩ x).setCell ⟨h, 1, none⟩ y).heap[h]? = some (Obj.cells #[x, y] 45 (0, 0)) ∧ Below w0.heap.size w0 ((w.setCell ⟨h, 0, none⟩ x).setCell ⟨h, 1, none⟩ y) := by
  have k1 := blk_put (cs := #[Value.bool false, .string ⟨#[]⟩]) hk 0 x rfl
  have k2 := blk_put (cs := #[x, .string ⟨#[]⟩]) k1 1 y rfl
  exact ⟨k2, (hB.setCell (p := ⟨h, 0, none⟩) hh _).setCell (p := ⟨h, 1, none⟩) hh _⟩
theorem dy_four {w0 w : World} {h : Nat} (x y z v : Value) (hk : w.heap[h]? = some (Obj.cells #[Value.bool false, .string ⟨#[]⟩, .string ⟨#[]⟩, .string ⟨#[]⟩] 27 (0, 0))) (hB : Below w0.heap.size w0 w) (hh : w0.heap.size ≤ h) :
    ((((w.setCell ⟨h, 0, none⟩ x).setCell ⟨h, 1, none⟩ y).setCell ⟨h, 2, none⟩ z).setCell ⟨h, 3, none⟩ v).heap[h]? = some (Obj.cells #[x, y, z, v] 27 (0, 0)) ∧ Below w0.heap.size w0 ((((w.setCell ⟨h, 0, none⟩ x).setCell ⟨h, 1, none⟩ y).setCell ⟨h, 2, none⟩ z).setCell ⟨h, 3, none⟩ v) := by
  have k1 := blk_put (cs := #[Value.bool false, .string ⟨#[]⟩, .string ⟨#[]⟩, .string ⟨#[]⟩]) hk 0 x rfl
  have k2 := blk_put (cs := #[x, .string ⟨#[]⟩, .string ⟨#[]⟩, .string ⟨#[]⟩]) k1 1 y rfl
  have k3 := blk_put (cs := #[x, y, .string ⟨#[]⟩, .string ⟨#[]⟩]) k2 2 z rfl
  have k4 := blk_put (cs := #[x, y, z, .string ⟨#[]⟩]) k3 3 v rfl
  exact ⟨k4, (((hB.setCell (p := ⟨h, 0, none⟩) hh _).setCell (p := ⟨h, 1, none⟩) hh _).setCell (p := ⟨h, 2, none⟩) hh _).setCell (p := ⟨h, 3, none⟩) hh _⟩
set_option maxRecDepth 100000 in
set_option maxHeartbeats 8000000 in
theorem debTold_calls (b : Nat) (z : Int) (u v : ByteArray) (w : World) (hb : IsBig w b z) :
    Calls Tryd.prog 20 #[.agg #[.pointer (some ⟨b, 0, none⟩), .string u, .string v]] w fun e w' => e = .returned (.tuple #[.agg #[.bool (decide (z < 0)), .string (bs (Lb.mag z.natAbs))], .string u, .string v]) ∧ Below w.heap.size w w' := by
  have b1 := below_alloc (Below.refl w.heap.size w) (Obj.cells #[Value.pointer (some ⟨b, 0, none⟩), .string u, .string v] 40)
  have b2 := below_alloc b1 (Obj.cells #[Value.bool false, .string ⟨#[]⟩] 45)
  have k0 := blk_new w (Obj.cells #[Value.pointer (some ⟨b, 0, none⟩), .string u, .string v] 40)
  have k1 : ((w.alloc (Obj.cells #[Value.pointer (some ⟨b, 0, none⟩), .string u, .string v] 40)).alloc (Obj.cells #[Value.bool false, .string ⟨#[]⟩] 45)).heap[w.heap.size]? = some (Obj.cells #[Value.pointer (some ⟨b, 0, none⟩), .string u, .string v] 40) := blk_alloc k0 _
  have m1 : ((w.alloc (Obj.cells #[Value.pointer (some ⟨b, 0, none⟩), .string u, .string v] 40)).alloc (Obj.cells #[Value.bool false, .string ⟨#[]⟩] 45)).heap[w.heap.size + 1]? = some (Obj.cells #[Value.bool false, .string ⟨#[]⟩] 45) := by
    have := blk_new (w.alloc (Obj.cells #[Value.pointer (some ⟨b, 0, none⟩), .string u, .string v] 40)) (Obj.cells #[Value.bool false, .string ⟨#[]⟩] 45)
    simpa using this
  have pz := fun (w' : World) (h : IsBig w' b z) => plain_calls z b w' h
  generalize decide (z < 0) = ng at *
  generalize bs (Lb.mag z.natAbs) = mg at *
  go_enter Tryd.func20, Tryd.ntmps20
  go_wp2_with fail
  have B5 := Aside0.mk b2
  have HB := Aside0.mk hb
  clear b1 k0 hb
  obtain ⟨W, eW⟩ : ∃ W, W = (w.alloc (Obj.cells #[Value.pointer (some ⟨b, 0, none⟩), .string u, .string v] 40)).alloc (Obj.cells #[Value.bool false, .string ⟨#[]⟩] 45) := ⟨_, rfl⟩
  rw [← eW] at k1 m1 b2 B5 ⊢
  have r0 := blk_cell k1 0
  have r1 := blk_cell k1 1
  have r2 := blk_cell k1 2
  have K5 := Aside0.mk k1
  have K6 := Aside0.mk m1
  have PZ := fun (w' : World) (d : Below W.heap.size W w') => pz w' (HB.out.below (below_then B5.out B5.out.size d))
  have h5 := blk_lt K5.out
  have h6 := blk_lt K6.out
  clear eW pz k1 m1 b2
  go_region_with (go_at_call 32; (with_reducible refine (PZ _ ?hb).mono ?_); (case hb => repeat (first | with_reducible exact Below.refl _ _ | with_reducible apply Below.drew | apply pw_below_drewN | apply below_drew)); rintro e w2 ⟨rfl, d2⟩; have q5 := (d2.block _ h5).trans K5.out; have q6 := (d2.block _ h6).trans K6.out; have s0 := blk_cell q5 0; have s1 := blk_cell q5 1; have s2 := blk_cell q5 2; have t0 := blk_cell q6 0; have t1 := blk_cell q6 1; have g0 := Lib.frozen_of_heap q6 0; have g1 := Lib.frozen_of_heap q6 1; have lt6 := blk_lt q6; have Q6 := Aside0.mk q6; have D6 := Aside0.mk (below_then (by repeat (first | with_reducible exact B5.out | with_reducible apply Below.drew | apply pw_below_drewN)) (by exact B5.out.size) d2); clear d2 q5 q6)
  all_goals (go_wp2_with fail; exact bodyPost_ret (results_list (rs := [.cell 2 45, .tmp 3, .tmp 4]) rfl (by simp) (.cell (w.heap.size + 1) 45 #[.bool ng, .string mg] (0, 0) _ rfl (dy_fin (.bool ng) (.string mg) Q6.out D6.out (Nat.le_succ _)).1 Tryd.underlying45 rfl (by kernel_rfl) (.tmp (.tmp .nil)))) rfl ⟨rfl, (dy_fin (.bool ng) (.string mg) Q6.out D6.out (Nat.le_succ _)).2⟩)
end Go.Proofs.YtffcbcihnoaikaaDoor.Giv
