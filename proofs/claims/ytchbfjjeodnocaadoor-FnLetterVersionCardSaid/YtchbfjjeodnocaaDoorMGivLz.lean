/- Contracts by hand: the normal form of a letter and a number, from the statements' side. -/
import Derived.Test.YtchbfjjeodnocaaDoorMGivLv
import Derived.Deep.RegionHeld3
namespace Go.Proofs.YtchbfjjeodnocaaDoor.Giv
open Go.RowKit Go.Proofs.YtchbfjjeodnocaaDoorW.PrintWords Go.Proofs.YtchbfjjeodnocaaDoorW.PrintLast Go.Proofs.YtchbfjjeodnocaaDoor.Pk Go.Proofs.YtchbfjjeodnocaaDoor.Ord Go.Proofs.YtchbfjjeodnocaaDoor.QM
set_option linter.unusedVariables false
set_option linter.unusedSimpArgs false

/-- What is left in the world: the told letter's block filled. -/
theorem lz_fin {w0 w : World} {h ty : Nat} (a b : Bool) (x y : ByteArray) (hk : w.heap[h]? = some (Obj.cells #[Value.bool false, .string ⟨#[]⟩, .bool false, .string ⟨#[]⟩] ty (0, 0))) (hB : Below w0.heap.size w0 w) (hh : w0.heap.size ≤ h) :
    ((((w.setCell ⟨h, 0, none⟩ (.bool a)).setCell ⟨h, 1, none⟩ (.string x)).setCell ⟨h, 2, none⟩ (.bool b)).setCell ⟨h, 3, none⟩ (.string y)).heap[h]? = some (Obj.cells #[Value.bool a, .string x, .bool b, .string y] ty (0, 0)) ∧ Below w0.heap.size w0 ((((w.setCell ⟨h, 0, none⟩ (.bool a)).setCell ⟨h, 1, none⟩ (.string x)).setCell ⟨h, 2, none⟩ (.bool b)).setCell ⟨h, 3, none⟩ (.string y)) := by
  have k1 := blk_put (cs := #[Value.bool false, .string ⟨#[]⟩, .bool false, .string ⟨#[]⟩]) hk 0 (.bool a) rfl
  have k2 := blk_put (cs := #[Value.bool a, .string ⟨#[]⟩, .bool false, .string ⟨#[]⟩]) k1 1 (.string x) rfl
  have k3 := blk_put (cs := #[Value.bool a, .string x, .bool false, .string ⟨#[]⟩]) k2 2 (.bool b) rfl
  have k4 := blk_put (cs := #[Value.bool a, .string x, .bool b, .string ⟨#[]⟩]) k3 3 (.string y) rfl
  exact ⟨k4, (((hB.setCell (p := ⟨h, 0, none⟩) hh _).setCell (p := ⟨h, 1, none⟩) hh _).setCell (p := ⟨h, 2, none⟩) hh _).setCell (p := ⟨h, 3, none⟩) hh _⟩
set_option maxHeartbeats 4000000 in
set_option maxRecDepth 100000 in
theorem zzLV_some (l n X : ByteArray) (w : World) (z : Int) (pc : ∀ w', Below w.heap.size w w' → Calls Tryd.prog 115 #[.string l, .string n] w' fun e w'' => ∃ b, e = .returned (.tuple #[.agg #[.string X, .pointer (some ⟨b, 0, none⟩)], .nilIface]) ∧ IsBig w'' b z ∧ Below w'.heap.size w' w'') :
    Calls Tryd.prog 80 #[.string l, .string n] w fun e w' => e = .returned (.tuple #[.agg #[.bool true, .string X, .bool (decide (z < 0)), .string (bs (Lb.mag z.natAbs))], .nilIface]) ∧ Below w.heap.size w w' := by
  have al := below_alloc (Below.refl w.heap.size w) (Obj.cells #[Value.bool false, .string ⟨#[]⟩, .bool false, .string ⟨#[]⟩] 104)
  have AL := Aside0.mk al
  have K0 := Aside0.mk (blk_new w (Obj.cells #[Value.bool false, .string ⟨#[]⟩, .bool false, .string ⟨#[]⟩] 104))
  have pz := fun (b : Nat) (w' : World) (h : IsBig w' b z) => plain_calls z b w' h
  clear al
  generalize decide (z < 0) = ng at *
  generalize bs (Lb.mag z.natAbs) = mg at *
  go_enter Tryd.func80, Tryd.ntmps80
  go_wp2_with (first | (go_at_call 115; (with_reducible refine (pc _ AL.out).mono ?_); rintro e w1 ⟨b, rfl, hb, d1⟩; have D1 := Aside0.mk (below_then AL.out AL.out.size d1); have K1 := Aside0.mk ((d1.block _ (blk_lt K0.out)).trans K0.out); have HB := Aside0.mk hb; clear d1 hb pc; have k4 := blk_new w1 (Obj.cells #[Value.string ⟨#[]⟩, .pointer none] 94); have p0 := blk_cell k4 0; have p1 := blk_cell k4 1; have f0 := Lib.frozen_of_heap k4 0; have f1 := Lib.frozen_of_heap k4 1; have lt4 := blk_lt k4; clear k4))
  have k5 := blk_new w1 (Obj.cells #[Value.string X, .pointer (some ⟨b, 0, none⟩)] 94)
  have b5 := below_alloc (Below.refl w1.heap.size w1) (Obj.cells #[Value.string X, .pointer (some ⟨b, 0, none⟩)] 94)
  have HB5 := Aside0.mk (fun (w' : World) (d : Below w1.heap.size w1 w') => HB.out.below d)
  have r0 := blk_cell k5 0
  have r1 := blk_cell k5 1
  have K5 := Aside0.mk k5
  have B5 := Aside0.mk b5
  have K6 := Aside0.mk (blk_alloc K1.out (Obj.cells #[Value.string X, .pointer (some ⟨b, 0, none⟩)] 94))
  have D5 := Aside0.mk (below_alloc D1.out (Obj.cells #[Value.string X, .pointer (some ⟨b, 0, none⟩)] 94))
  clear p0 p1 f0 f1 lt4 k5 b5
  obtain ⟨W, eW⟩ : ∃ W, W = w1.alloc (Obj.cells #[Value.string X, .pointer (some ⟨b, 0, none⟩)] 94) := ⟨_, rfl⟩
  rw [← eW] at r0 r1 K5 B5 K6 D5 ⊢
  have PZ := fun (w' : World) (d : Below W.heap.size W w') => pz b w' (HB5.out w' (below_then B5.out B5.out.size d))
  have h5 := blk_lt K5.out
  have h6 := blk_lt K6.out
  clear eW pz
  go_region_with (go_at_call 116; (with_reducible refine (PZ _ ?hb).mono ?_); (case hb => repeat (first | with_reducible exact Below.refl _ _ | with_reducible apply Below.drew | apply pw_below_drewN | apply below_drew)); rintro e w2 ⟨rfl, d2⟩; have q5 := (d2.block _ h5).trans K5.out; have q6 := (d2.block _ h6).trans K6.out; have s0 := blk_cell q5 0; have s1 := blk_cell q5 1; have t0 := blk_cell q6 0; have t1 := blk_cell q6 1; have t2 := blk_cell q6 2; have t3 := blk_cell q6 3; have g0 := Lib.frozen_of_heap q6 0; have g1 := Lib.frozen_of_heap q6 1; have g2 := Lib.frozen_of_heap q6 2; have g3 := Lib.frozen_of_heap q6 3; have lt6 := blk_lt q6; have Q6 := Aside0.mk q6; have D6 := Aside0.mk (below_then (by repeat (first | with_reducible exact D5.out | with_reducible apply Below.drew | apply pw_below_drewN)) (by exact D5.out.size) d2); clear d2 q5 q6)
  all_goals (go_wp2_with fail; exact bodyPost_ret (results_list (rs := [.cell 4 104, .tmp 5]) rfl (by simp) (.cell w.heap.size 104 #[.bool true, .string X, .bool ng, .string mg] (0, 0) _ rfl (lz_fin true ng X mg Q6.out D6.out (Nat.le_refl _)).1 Tryd.underlying104 rfl (by kernel_rfl) (.tmp .nil))) rfl ⟨rfl, (lz_fin true ng X mg Q6.out D6.out (Nat.le_refl _)).2⟩)
end Go.Proofs.YtchbfjjeodnocaaDoor.Giv
