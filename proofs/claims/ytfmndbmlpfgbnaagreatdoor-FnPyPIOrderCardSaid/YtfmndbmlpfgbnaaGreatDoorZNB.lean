/- Several texts of this claim in one. Put together by wip/tool/merge.py. -/
import Derived.Test.YtfmndbmlpfgbnaaGreatDoorNGivPu
import Derived.Test.YtfmndbmlpfgbnaaGreatDoorZNA
import Derived.Test.YtfmndbmlpfgbnaaGreatDoorQNx
/- Contract by hand: impl.PyPICompare of two versions with all their parts. -/
namespace Go.Proofs.YtfmndbmlpfgbnaaGreatDoor.Giv
open Go.RowKit Go.Proofs.YtfmndbmlpfgbnaaGreatDoorW.PrintWords Go.Proofs.YtfmndbmlpfgbnaaGreatDoorW.PrintLast Go.Proofs.YtfmndbmlpfgbnaaGreatDoor.Pk Go.Proofs.YtfmndbmlpfgbnaaGreatDoor.Ord Go.Proofs.YtfmndbmlpfgbnaaGreatDoor.QN
set_option linter.unusedVariables false
set_option linter.unusedSimpArgs false

/-- What of a version is compared. -/
structure PvC where
  leg : List ByteArray
  ep : Int
  rel : List Int
  pl : ByteArray
  z0 : Option Int
  z1 : Option Int
  z2 : Option Int
  loc : List (List UInt8)
/-- Two versions compared. -/
def pvCmp (a b : PvC) : Int := thn (legC a.leg b.leg) (thn (cI a.ep b.ep) (thn (padL cI 0 a.rel b.rel) (thn (preC a.pl a.z0 a.z1 a.z2 b.pl b.z0 b.z1 b.z2) (thn (poC a.z1 b.z1) (thn (deC a.z2 b.z2) (lexL pyC a.loc b.loc))))))
/-- What is known of a version's cells. -/
structure PyIn (w : World) (p : Py) (rel : List S23) (l : List S56) (loc leg : List ByteArray) : Prop where
  small : p.Small
  rn : p.rn = rel.length
  hr : Kd.C k23 w p.RA rel.length rel
  hrc : rel.length ≤ p.rc
  hb : ∃ k, impl_bigs.f k rel = some l
  hl : l.length ≤ 100000
  hs : ∀ x ∈ l, x.f1.size ≤ 100000
  ln : p.ln = loc.length
  hloc : Kd.C Kd.string w p.LA loc.length loc
  fit : fit loc = true
  gn : p.gn = leg.length
  hleg : Kd.C Kd.string w p.GA leg.length leg
  hgc : leg.length ≤ p.gc
  mleg : leg.length ≤ 1000000 ∧ (leg.flatMap (·.toList)).length ≤ 140737488355328
  pre : p.a0 = true → 0 < p.a1.size
theorem PyIn.below {w w' : World} {p : Py} {rel : List S23} {l : List S56} {loc leg : List ByteArray} (h : PyIn w p rel l loc leg) (d : Below w.heap.size w w') : PyIn w' p rel l loc leg :=
  ⟨h.small, h.rn, Kd.C_below h.hr d, h.hrc, h.hb, h.hl, h.hs, h.ln, Kd.C_below h.hloc d, h.fit, h.gn, Kd.C_below h.hleg d, h.hgc, h.mleg, h.pre⟩
/-- What is compared. -/
def pvOf (p : Py) (l : List S56) (loc leg : List ByteArray) : PvC := ⟨leg, zOf p.e0 p.e1, zsOf l, p.a1, ltN p.a0 p.a2 p.a3, ltN p.b0 p.b2 p.b3, ltN p.d0 p.d2 p.d3, tl loc⟩
/-- The package's own form of a version, in a world. -/
def PvV (p : Py) (l : List S56) (v : Value) (w : World) : Prop :=
  ∃ (q : Nat) (A' : Option Addr) (c' : Nat) (oa ob od : Option Addr), v = .agg (loG p q A' l.length c' oa ob od) ∧ IsBig w q (zOf p.e0 p.e1) ∧ BRow w A' (zsOf l) ∧ NumO w oa (ltN p.a0 p.a2 p.a3) ∧ NumO w ob (ltN p.b0 p.b2 p.b3) ∧ NumO w od (ltN p.d0 p.d2 p.d3)
theorem PvV.below {p : Py} {l : List S56} {v : Value} {w w' : World} (h : PvV p l v w) (d : Below w.heap.size w w') : PvV p l v w' := by
  obtain ⟨q, A', c', oa, ob, od, rfl, h1, h2, h3, h4, h5⟩ := h
  exact ⟨q, A', c', oa, ob, od, rfl, h1.below d, h2.below d, h3.below d, h4.below d, h5.below d⟩
theorem pvV_calls {w : World} {p : Py} {rel : List S23} {l : List S56} {loc leg : List ByteArray} (h : PyIn w p rel l loc leg) :
    Calls Tryz.prog 20 #[.agg (pyA p)] w fun e w' => ∃ v, e = .returned v ∧ PvV p l v w' ∧ Below w.heap.size w w' := by
  obtain ⟨k, hb⟩ := h.hb
  refine (piG_calls p k rel l w h.small h.rn h.hr h.hrc hb h.hl h.hs).mono ?_
  rintro e w' ⟨q, A', c', oa, ob, od, rfl, hp, ⟨bs0, ho⟩, ha, hb, hd, _, d⟩
  obtain ⟨A2, c2, e2, _, h2⟩ := ho.slice
  injection e2 with e3 e4 e5
  exact ⟨_, rfl, ⟨q, A', c', oa, ob, od, rfl, hp, by rw [e3]; exact h2, ha, hb, hd⟩, d⟩
theorem isSome_lt {h n : Bool} {m : ByteArray} (e : (ltN h n m).isSome = true) : h = true := by
  unfold ltN at e
  cases h with
  | true => rfl
  | false => exact absurd e (by simp)
theorem pvCmp_calls {w : World} {p p' : Py} {rel rel' : List S23} {l l' : List S56} {loc loc' leg leg' : List ByteArray} (h : PyIn w p rel l loc leg) (h' : PyIn w p' rel' l' loc' leg') (hL : Laid w) (v u : Value) (hv : PvV p l v w) (hu : PvV p' l' u w) :
    Calls Tryz.prog 19 #[v, u] w fun e w' => e = .returned (.int .i64 (pvCmp (pvOf p l loc leg) (pvOf p' l' loc' leg'))) ∧ Below w.heap.size w w' := by
  obtain ⟨q, A1, c1, oa, ob, od, rfl, b1, b2, b3, b4, b5⟩ := hv
  obtain ⟨q', A1', c1', oa', ob', od', rfl, d1, d2, d3, d4, d5⟩ := hu
  refine zzcG _ _ _ _ _ _ _ _ _ _ _ _ _ _ _ _ _ _ _ _ _ _ _ _ _ _ _ _ _ w ?_
  intro w1 e1
  refine cmpG _ _ _ _ _ _ _ _ _ _ _ _ _ _ _ _ _ _ _ _ _ _ _ _ _ _ _ _ _ w1 ?_
  intro w2 e2
  have e3 := below_then e1 e1.size e2
  refine verG _ _ _ _ _ _ _ _ _ _ _ _ _ _ _ _ _ _ _ _ _ _ _ _ _ _ _ _ (legC leg leg') (cI (zOf p.e0 p.e1) (zOf p'.e0 p'.e1)) (padL cI 0 (zsOf l) (zsOf l')) (preC p.a1 (ltN p.a0 p.a2 p.a3) (ltN p.b0 p.b2 p.b3) (ltN p.d0 p.d2 p.d3) p'.a1 (ltN p'.a0 p'.a2 p'.a3) (ltN p'.b0 p'.b2 p'.b3) (ltN p'.d0 p'.d2 p'.d3)) (poC (ltN p.b0 p.b2 p.b3) (ltN p'.b0 p'.b2 p'.b3)) (deC (ltN p.d0 p.d2 p.d3) (ltN p'.d0 p'.d2 p'.d3)) (lexL pyC (tl loc) (tl loc')) w2 ?_ ?_ ?_ ?_ ?_ ?_ ?_
  · intro w3 e4
    have e5 := below_then e3 e3.size e4
    exact legG _ _ _ _ _ _ _ _ _ _ _ _ _ _ _ _ _ _ _ _ _ _ _ _ _ _ _ _ leg leg' w3 h.gn h'.gn (Kd.C_below h.hleg e5) (Kd.C_below h'.hleg e5) h.hgc h'.hgc h.mleg h'.mleg
  · intro w3 e4
    have e5 := below_then e3 e3.size e4
    exact epoG _ _ _ _ _ _ _ _ _ _ _ _ _ _ _ _ _ _ _ _ _ _ _ _ _ _ q q' _ _ w3 (b1.below e5) (d1.below e5)
  · intro w3 e4
    have e5 := below_then e3 e3.size e4
    exact relG _ _ _ _ _ _ _ _ _ _ _ _ _ _ _ _ _ _ _ _ _ _ _ _ _ _ A1 A1' c1 c1' _ _ (zsOf l) (zsOf l') w3 (zsOf_len l).symm (zsOf_len l').symm (b2.below e5) (d2.below e5) (by rw [zsOf_len]; have := h.hl; omega) (by rw [zsOf_len]; have := h'.hl; omega)
  · intro w3 e4
    have e5 := below_then e3 e3.size e4
    exact preG _ _ _ _ _ _ _ _ _ _ _ _ _ _ _ _ _ _ _ _ _ _ _ _ _ _ _ _ _ _ _ _ _ _ w3 (b3.below e5) (b4.below e5) (b5.below e5) (d3.below e5) (d4.below e5) (d5.below e5) (fun e => h.pre (isSome_lt e)) (fun e => h'.pre (isSome_lt e))
  · intro w3 e4
    have e5 := below_then e3 e3.size e4
    exact postG _ _ _ _ _ _ _ _ _ _ _ _ _ _ _ _ _ _ _ _ _ _ _ _ _ _ _ _ _ _ w3 (b4.below e5) (d4.below e5)
  · intro w3 e4
    have e5 := below_then e3 e3.size e4
    exact devG _ _ _ _ _ _ _ _ _ _ _ _ _ _ _ _ _ _ _ _ _ _ _ _ _ _ _ _ _ _ w3 (b5.below e5) (d5.below e5)
  · intro w3 e4
    have e5 := below_then e3 e3.size e4
    have := localG (.pointer (some ⟨q, 0, none⟩)) (.pointer (some ⟨q', 0, none⟩)) (.slice A1 l.length c1) (.slice A1' l'.length c1') p.a1 p.b1 p.d1 p'.a1 p'.b1 p'.d1 oa ob od oa' ob' od' p.GA p'.GA p.gn p.gc p'.gn p'.gc loc loc' p.LA p'.LA p.lc p'.lc w3 (Kd.C_below h.hloc e5) (Kd.C_below h'.hloc e5) h.fit h'.fit (hL.below e5)
    rw [← h.ln, ← h'.ln] at this
    exact this
theorem implG {w : World} {p p' : Py} {rel rel' : List S23} {l l' : List S56} {loc loc' leg leg' : List ByteArray} (h : PyIn w p rel l loc leg) (h' : PyIn w p' rel' l' loc' leg') (hL : Laid w) :
    Calls Tryz.prog 7 #[.agg (pyA p), .agg (pyA p')] w fun e w' => e = .returned (.int .i64 (pvCmp (pvOf p l loc leg) (pvOf p' l' loc' leg'))) ∧ Below w.heap.size w w' := by
  refine f7G _ _ _ _ _ _ _ _ _ _ _ _ _ _ _ _ _ _ _ _ _ _ _ _ _ _ _ _ _ _ _ _ _ _ (fun v w' => PvV p l v w') (fun v w' => PvV p' l' v w') _ w (fun v w1 w2 hv d => hv.below d) (fun w' d => pvV_calls (h.below d)) (fun w' d => pvV_calls (h'.below d)) ?_
  intro w' v u d hv hu
  exact pvCmp_calls (h.below d) (h'.below d) (hL.below d) v u hv hu
end Go.Proofs.YtfmndbmlpfgbnaaGreatDoor.Giv
/- The law FnPyPIOrder over what it calls, the cells of its arguments whatever they are. Printed by wip/tool/genpv.py. -/
namespace Go.Proofs.YtfmndbmlpfgbnaaGreatDoor.Giv
open Go.RowKit Go.Proofs.YtfmndbmlpfgbnaaGreatDoorW.PrintWords Go.Proofs.YtfmndbmlpfgbnaaGreatDoorW.PrintLast Go.Proofs.YtfmndbmlpfgbnaaGreatDoor.Pk Go.Proofs.YtfmndbmlpfgbnaaGreatDoor.Ord Go.Proofs.YtfmndbmlpfgbnaaGreatDoor.QN
set_option linter.unusedVariables false
set_option linter.unusedSimpArgs false

/-- The three arguments' blocks are as they were. -/
structure T3 (X Y Z : Array Value) (w w' : World) : Prop where
  x : w'.heap[w.heap.size]? = some (Obj.cells X 29 (0, 0))
  y : w'.heap[w.heap.size + 1]? = some (Obj.cells Y 29 (0, 0))
  z : w'.heap[w.heap.size + 1 + 1]? = some (Obj.cells Z 29 (0, 0))
  b : Below w.heap.size w w'
theorem T3.on {X Y Z : Array Value} {w w1 w2 : World} (h : T3 X Y Z w w1) (d : Below w1.heap.size w1 w2) : T3 X Y Z w w2 :=
  ⟨blk_below h.x d, blk_below h.y d, blk_below h.z d, below_then h.b h.b.size d⟩
theorem T3.start (X Y Z : Array Value) (w : World) : T3 X Y Z w (((w.alloc (Obj.cells X 29)).alloc (Obj.cells Y 29)).alloc (Obj.cells Z 29)) := by
  refine ⟨blk_alloc (blk_alloc (blk_new w _) _) _, blk_alloc ?_ _, ?_, below_alloc (below_alloc (below_alloc (Below.refl _ _) _) _) _⟩
  · have := blk_new (w.alloc (Obj.cells X 29)) (Obj.cells Y 29)
    simpa using this
  · have := blk_new ((w.alloc (Obj.cells X 29)).alloc (Obj.cells Y 29)) (Obj.cells Z 29)
    simpa using this
theorem sz_py : (Tryz.prog.info? 29).map (·.size) = some 17 := by kernel_rfl
theorem sz_pyA {X : Array Value} (h : X.size = 17) : (Tryz.prog.info? 29).map (·.size) = some X.size := sz_py.trans (congrArg some h.symm)
theorem run_bs {o : Oper} {a : Act} {W : World} {X Y Z R : Array Value} {t : TypeId} {x y z : Operand} (ho : o.op = .buildSlice t 3 #[(0, x), (1, y), (2, z)]) (hx : a.eval x = .agg X) (hy : a.eval y = .agg Y) (hz : a.eval z = .agg Z)
    (h : (Instr.buildSlice t 3 #[(0, .agg X), (1, .agg Y), (2, .agg Z)]).run Tryz.prog W = .ok (.slice (some ⟨W.heap.size, 0, none⟩) 3 3) (W.alloc (Obj.cells R 29))) :
    (execOp a.eval o).run Tryz.prog W = .ok (.value (.slice (some ⟨W.heap.size, 0, none⟩) 3 3)) (W.alloc (Obj.cells R 29)) := by
  unfold execOp
  simp only [ho]
  simp [hx, hy, hz, h]
section
variable {ops : Array Oper} {md : Region.Mode} {Q : Exit → Act → World → Prop} {S : World → Prop}
theorem op_at {i : Nat} {oi : Oper} {rest : List Oper} (h : ops.toList.drop i = oi :: rest) : ops[i]? = some oi := by
  have h1 : ops.toList[i]? = some oi := by
    have := List.getElem?_drop (xs := ops.toList) (i := i) (j := 0)
    rw [h] at this
    simpa using this.symm
  simpa using h1
theorem take_at (i : Nat) {oi : Oper} {rest : List Oper} (v : Value) {fuel : Nat} {listed : Array Bool} {a : Act} {w : World} (hi : ops.toList.drop i = oi :: rest)
    (hs : Region.noSelect ops = true) (hf : Region.free md ops listed i = true) (hr : (Region.ready md ops listed).contains i = true)
    (hQ : ∀ c a w, Q (.panic c) (a.put oi.dst v) w → Q (.panic c) a w) (hy : YieldsIf Tryz.prog ops S oi v a) (hS : S w)
    (h : wpAnyH Tryz.prog md ops Q S fuel (listed.setIfInBounds i true) (a.put oi.dst v) w) : wpAnyH Tryz.prog md ops Q S (fuel + 1) listed a w :=
  wpAnyH_take (op_at hi) hs hf hr hQ hy hS h
theorem cons_at {fuel : Nat} {listed : Array Bool} {a : Act} {w : World} {i : Nat} {o : Oper} {rest : List Oper} {rs : List Nat} (ho : ops.toList.drop i = o :: rest)
    (h : ∀ K' : Act → World → Prop, Shut (∀ a w, S w → (S w → wpAnyH Tryz.prog md ops Q S fuel (listed.setIfInBounds i true) a w) → K' a w) → if Region.wanted o (yielded ops a.tmps) = true then Oper.wp Tryz.prog o a w K' Q else K' (a.put o.dst undef) w)
    (hs : AllReadyH Tryz.prog md ops Q S fuel listed a w rs) : AllReadyH Tryz.prog md ops Q S fuel listed a w (i :: rs) := AllReadyH.cons (op_at ho) h hs
theorem yld_py {o : Oper} {a : Act} (hw : Region.wanted o (yielded ops a.tmps) = true) (x : Operand) (ho : o.op = .load 29 x)
    (g : Nat) (hx : a.eval x = .pointer (some ⟨g, 0, none⟩)) (X : Array Value) (hX : X.size = 17) (hS : ∀ w, S w → w.heap[g]? = some (Obj.cells X 29 (0, 0))) : YieldsIf Tryz.prog ops S o (.agg X) a :=
  .inl ⟨hw, fun w hw' => by
    unfold execOp
    simp only [ho, hx, Instr.loadAt, Instr.sureAddr, Sem.run_bind, Sem.run_pure, Result.andThen_ok, run_loadVar_row (P := Tryz.prog) w g 29 29 X (0, 0) _ (hS w hw') Tryz.underlying29 rfl (sz_pyA hX)]⟩
end
set_option maxRecDepth 100000 in
set_option maxHeartbeats 20000000 in
theorem f3A (X Y Z : Array Value) (HX : Aside0 (X.size = 17)) (HY : Aside0 (Y.size = 17)) (HZ : Aside0 (Z.size = 17)) (w : World)
    (c0 : ∀ w' : World, Below w.heap.size w w' → Calls Tryz.prog 4 #[.agg X] w' fun e w2 => e = .returned (.bool false) ∧ Below w'.heap.size w' w2) :
    Calls Tryz.prog 3 #[.agg X, .agg Y, .agg Z] w fun e w' => e = .returned (.bool true) ∧ Below w.heap.size w w' := by
  have C0 := Aside0.mk c0
  clear c0
  have HT := T3.start X Y Z w
  go_enter Tryz.func3, Tryz.ntmps3
  go_upto_region 1 with fail
  obtain ⟨W, eW⟩ : ∃ W, W = (((w.alloc (Obj.cells X 29)).alloc (Obj.cells Y 29)).alloc (Obj.cells Z 29)) := ⟨_, rfl⟩
  rw [← eW] at HT ⊢
  clear eW
  go_wp2_with (first | ((with_reducible refine gate_dst (N := 7) rfl ?_); (try (refine gate_guard (by rfl) ?_; dsimp only)); refine wpList_load_row rfl 29 _ rfl _ rfl 29 X (0, 0) _ HT.x Tryz.underlying29 rfl (sz_pyA HX.out) ?_) | (go_at_call 4; (with_reducible refine (C0.out _ HT.b).mono ?_); rintro e w1 ⟨rfl, d1⟩; have HT1 := HT.on d1; clear HT d1; have HT := HT1; clear HT1))
  go_ret
  exact ⟨rfl, HT.b⟩
set_option maxRecDepth 100000 in
set_option maxHeartbeats 20000000 in
theorem f3B (X Y Z : Array Value) (HX : Aside0 (X.size = 17)) (HY : Aside0 (Y.size = 17)) (HZ : Aside0 (Z.size = 17)) (w : World)
    (c0 : ∀ w' : World, Below w.heap.size w w' → Calls Tryz.prog 4 #[.agg X] w' fun e w2 => e = .returned (.bool true) ∧ Below w'.heap.size w' w2)
    (c1 : ∀ w' : World, Below w.heap.size w w' → Calls Tryz.prog 4 #[.agg Y] w' fun e w2 => e = .returned (.bool false) ∧ Below w'.heap.size w' w2) :
    Calls Tryz.prog 3 #[.agg X, .agg Y, .agg Z] w fun e w' => e = .returned (.bool true) ∧ Below w.heap.size w w' := by
  have C0 := Aside0.mk c0
  have C1 := Aside0.mk c1
  clear c0 c1
  have HT := T3.start X Y Z w
  go_enter Tryz.func3, Tryz.ntmps3
  go_upto_region 1 with fail
  obtain ⟨W, eW⟩ : ∃ W, W = (((w.alloc (Obj.cells X 29)).alloc (Obj.cells Y 29)).alloc (Obj.cells Z 29)) := ⟨_, rfl⟩
  rw [← eW] at HT ⊢
  clear eW
  go_wp2_with (first | ((with_reducible refine gate_dst (N := 7) rfl ?_); (try (refine gate_guard (by rfl) ?_; dsimp only)); refine wpList_load_row rfl 29 _ rfl _ rfl 29 X (0, 0) _ HT.x Tryz.underlying29 rfl (sz_pyA HX.out) ?_) | ((with_reducible refine gate_dst (N := 11) rfl ?_); (try (refine gate_guard (by rfl) ?_; dsimp only)); refine wpList_load_row rfl 29 _ rfl _ rfl 29 Y (0, 0) _ HT.y Tryz.underlying29 rfl (sz_pyA HY.out) ?_) | (go_at_call 4; (with_reducible refine (C0.out _ HT.b).mono ?_); rintro e w1 ⟨rfl, d1⟩; have HT1 := HT.on d1; clear HT d1; have HT := HT1; clear HT1) | (go_at_call 4; (with_reducible refine (C1.out _ HT.b).mono ?_); rintro e w1 ⟨rfl, d1⟩; have HT1 := HT.on d1; clear HT d1; have HT := HT1; clear HT1))
  go_ret
  exact ⟨rfl, HT.b⟩
set_option maxRecDepth 100000 in
set_option maxHeartbeats 20000000 in
theorem f3C (X Y Z : Array Value) (HX : Aside0 (X.size = 17)) (HY : Aside0 (Y.size = 17)) (HZ : Aside0 (Z.size = 17)) (w : World)
    (c0 : ∀ w' : World, Below w.heap.size w w' → Calls Tryz.prog 4 #[.agg X] w' fun e w2 => e = .returned (.bool true) ∧ Below w'.heap.size w' w2)
    (c1 : ∀ w' : World, Below w.heap.size w w' → Calls Tryz.prog 4 #[.agg Y] w' fun e w2 => e = .returned (.bool true) ∧ Below w'.heap.size w' w2)
    (c2 : ∀ w' : World, Below w.heap.size w w' → Calls Tryz.prog 4 #[.agg Z] w' fun e w2 => e = .returned (.bool false) ∧ Below w'.heap.size w' w2) :
    Calls Tryz.prog 3 #[.agg X, .agg Y, .agg Z] w fun e w' => e = .returned (.bool true) ∧ Below w.heap.size w w' := by
  have C0 := Aside0.mk c0
  have C1 := Aside0.mk c1
  have C2 := Aside0.mk c2
  clear c0 c1 c2
  have HT := T3.start X Y Z w
  go_enter Tryz.func3, Tryz.ntmps3
  go_upto_region 1 with fail
  obtain ⟨W, eW⟩ : ∃ W, W = (((w.alloc (Obj.cells X 29)).alloc (Obj.cells Y 29)).alloc (Obj.cells Z 29)) := ⟨_, rfl⟩
  rw [← eW] at HT ⊢
  clear eW
  go_wp2_with (first | ((with_reducible refine gate_dst (N := 7) rfl ?_); (try (refine gate_guard (by rfl) ?_; dsimp only)); refine wpList_load_row rfl 29 _ rfl _ rfl 29 X (0, 0) _ HT.x Tryz.underlying29 rfl (sz_pyA HX.out) ?_) | ((with_reducible refine gate_dst (N := 11) rfl ?_); (try (refine gate_guard (by rfl) ?_; dsimp only)); refine wpList_load_row rfl 29 _ rfl _ rfl 29 Y (0, 0) _ HT.y Tryz.underlying29 rfl (sz_pyA HY.out) ?_) | ((with_reducible refine gate_dst (N := 16) rfl ?_); (try (refine gate_guard (by rfl) ?_; dsimp only)); refine wpList_load_row rfl 29 _ rfl _ rfl 29 Z (0, 0) _ HT.z Tryz.underlying29 rfl (sz_pyA HZ.out) ?_) | (go_at_call 4; (with_reducible refine (C0.out _ HT.b).mono ?_); rintro e w1 ⟨rfl, d1⟩; have HT1 := HT.on d1; clear HT d1; have HT := HT1; clear HT1) | (go_at_call 4; (with_reducible refine (C1.out _ HT.b).mono ?_); rintro e w1 ⟨rfl, d1⟩; have HT1 := HT.on d1; clear HT d1; have HT := HT1; clear HT1) | (go_at_call 4; (with_reducible refine (C2.out _ HT.b).mono ?_); rintro e w1 ⟨rfl, d1⟩; have HT1 := HT.on d1; clear HT d1; have HT := HT1; clear HT1))
  go_ret
  exact ⟨rfl, HT.b⟩
set_option maxRecDepth 100000 in
set_option maxHeartbeats 20000000 in
theorem f3D (X Y Z : Array Value) (HX : Aside0 (X.size = 17)) (HY : Aside0 (Y.size = 17)) (HZ : Aside0 (Z.size = 17)) (w : World)
    (c0 : ∀ w' : World, Below w.heap.size w w' → Calls Tryz.prog 4 #[.agg X] w' fun e w2 => e = .returned (.bool true) ∧ Below w'.heap.size w' w2)
    (c1 : ∀ w' : World, Below w.heap.size w w' → Calls Tryz.prog 4 #[.agg Y] w' fun e w2 => e = .returned (.bool true) ∧ Below w'.heap.size w' w2)
    (c2 : ∀ w' : World, Below w.heap.size w w' → Calls Tryz.prog 4 #[.agg Z] w' fun e w2 => e = .returned (.bool true) ∧ Below w'.heap.size w' w2)
    (R : Array Value)
    (hbs : ∀ w' : World, (Instr.buildSlice 40 3 #[(0, .agg X), (1, .agg Y), (2, .agg Z)]).run Tryz.prog w' = .ok (.slice (some ⟨w'.heap.size, 0, none⟩) 3 3) (w'.alloc (Obj.cells R 29)))
    (c3 : ∀ w' : World, Below w.heap.size w w' → Calls Tryz.prog 5 #[.slice (some ⟨w'.heap.size, 0, none⟩) 3 3] (w'.alloc (Obj.cells R 29)) fun e w2 => e = .returned (.bool false) ∧ Below (w'.alloc (Obj.cells R 29)).heap.size (w'.alloc (Obj.cells R 29)) w2) :
    Calls Tryz.prog 3 #[.agg X, .agg Y, .agg Z] w fun e w' => e = .returned (.bool true) ∧ Below w.heap.size w w' := by
  have C0 := Aside0.mk c0
  have C1 := Aside0.mk c1
  have C2 := Aside0.mk c2
  have HBS := Aside0.mk hbs
  have C3 := Aside0.mk c3
  clear c0 c1 c2 hbs c3
  have HT := T3.start X Y Z w
  go_enter Tryz.func3, Tryz.ntmps3
  go_upto_region 1 with fail
  obtain ⟨W, eW⟩ : ∃ W, W = (((w.alloc (Obj.cells X 29)).alloc (Obj.cells Y 29)).alloc (Obj.cells Z 29)) := ⟨_, rfl⟩
  rw [← eW] at HT ⊢
  clear eW
  go_wp2_with (first | ((with_reducible refine gate_dst (N := 7) rfl ?_); (try (refine gate_guard (by rfl) ?_; dsimp only)); refine wpList_load_row rfl 29 _ rfl _ rfl 29 X (0, 0) _ HT.x Tryz.underlying29 rfl (sz_pyA HX.out) ?_) | ((with_reducible refine gate_dst (N := 11) rfl ?_); (try (refine gate_guard (by rfl) ?_; dsimp only)); refine wpList_load_row rfl 29 _ rfl _ rfl 29 Y (0, 0) _ HT.y Tryz.underlying29 rfl (sz_pyA HY.out) ?_) | ((with_reducible refine gate_dst (N := 16) rfl ?_); (try (refine gate_guard (by rfl) ?_; dsimp only)); refine wpList_load_row rfl 29 _ rfl _ rfl 29 Z (0, 0) _ HT.z Tryz.underlying29 rfl (sz_pyA HZ.out) ?_) | (go_at_call 4; (with_reducible refine (C0.out _ HT.b).mono ?_); rintro e w1 ⟨rfl, d1⟩; have HT1 := HT.on d1; clear HT d1; have HT := HT1; clear HT1) | (go_at_call 4; (with_reducible refine (C1.out _ HT.b).mono ?_); rintro e w1 ⟨rfl, d1⟩; have HT1 := HT.on d1; clear HT d1; have HT := HT1; clear HT1) | (go_at_call 4; (with_reducible refine (C2.out _ HT.b).mono ?_); rintro e w1 ⟨rfl, d1⟩; have HT1 := HT.on d1; clear HT d1; have HT := HT1; clear HT1) | ((with_reducible refine gate_dst (N := 20) rfl ?_); (try (refine gate_guard (by rfl) ?_; dsimp only)); refine wpList_load_row rfl 29 _ rfl _ rfl 29 X (0, 0) _ HT.x Tryz.underlying29 rfl (sz_pyA HX.out) ?_) | ((with_reducible refine gate_dst (N := 21) rfl ?_); (try (refine gate_guard (by rfl) ?_; dsimp only)); refine wpList_load_row rfl 29 _ rfl _ rfl 29 Y (0, 0) _ HT.y Tryz.underlying29 rfl (sz_pyA HY.out) ?_) | ((with_reducible refine gate_dst (N := 22) rfl ?_); (try (refine gate_guard (by rfl) ?_; dsimp only)); refine wpList_load_row rfl 29 _ rfl _ rfl 29 Z (0, 0) _ HT.z Tryz.underlying29 rfl (sz_pyA HZ.out) ?_) | ((with_reducible refine gate_dst (N := 23) rfl ?_); refine Kd.event_run rfl (run_bs rfl rfl rfl rfl (HBS.out _)) ?_; have HV := Aside0.mk HT.b; have HT1 := HT.on (below_alloc (Below.refl _ _) (Obj.cells R 29)); clear HT; have HT := HT1; clear HT1) | (go_at_call 5; (with_reducible refine (C3.out _ HV.out).mono ?_); rintro e w1 ⟨rfl, d1⟩; have HT1 := HT.on d1; clear HT d1; have HT := HT1; clear HT1))
  go_ret
  exact ⟨rfl, HT.b⟩
set_option maxRecDepth 100000 in
set_option maxHeartbeats 20000000 in
theorem f3E (X Y Z : Array Value) (HX : Aside0 (X.size = 17)) (HY : Aside0 (Y.size = 17)) (HZ : Aside0 (Z.size = 17)) (w : World)
    (c0 : ∀ w' : World, Below w.heap.size w w' → Calls Tryz.prog 4 #[.agg X] w' fun e w2 => e = .returned (.bool true) ∧ Below w'.heap.size w' w2)
    (c1 : ∀ w' : World, Below w.heap.size w w' → Calls Tryz.prog 4 #[.agg Y] w' fun e w2 => e = .returned (.bool true) ∧ Below w'.heap.size w' w2)
    (c2 : ∀ w' : World, Below w.heap.size w w' → Calls Tryz.prog 4 #[.agg Z] w' fun e w2 => e = .returned (.bool true) ∧ Below w'.heap.size w' w2)
    (R : Array Value)
    (hbs : ∀ w' : World, (Instr.buildSlice 40 3 #[(0, .agg X), (1, .agg Y), (2, .agg Z)]).run Tryz.prog w' = .ok (.slice (some ⟨w'.heap.size, 0, none⟩) 3 3) (w'.alloc (Obj.cells R 29)))
    (c3 : ∀ w' : World, Below w.heap.size w w' → Calls Tryz.prog 5 #[.slice (some ⟨w'.heap.size, 0, none⟩) 3 3] (w'.alloc (Obj.cells R 29)) fun e w2 => e = .returned (.bool true) ∧ Below (w'.alloc (Obj.cells R 29)).heap.size (w'.alloc (Obj.cells R 29)) w2)
    (ab bc ac : Int)
    (ca : ∀ w' : World, Below w.heap.size w w' → Calls Tryz.prog 6 #[] w' fun e w2 => e = .returned (.bool true) ∧ Below w'.heap.size w' w2)
    (c4 : ∀ w' : World, Below w.heap.size w w' → Calls Tryz.prog 7 #[.agg X, .agg X] w' fun e w2 => e = .returned (.int .i64 0) ∧ Below w'.heap.size w' w2)
    (c5 : ∀ w' : World, Below w.heap.size w w' → Calls Tryz.prog 7 #[.agg X, .agg Y] w' fun e w2 => e = .returned (.int .i64 ab) ∧ Below w'.heap.size w' w2)
    (c6 : ∀ w' : World, Below w.heap.size w w' → Calls Tryz.prog 7 #[.agg Y, .agg Z] w' fun e w2 => e = .returned (.int .i64 bc) ∧ Below w'.heap.size w' w2)
    (c7 : ∀ w' : World, Below w.heap.size w w' → Calls Tryz.prog 7 #[.agg X, .agg Z] w' fun e w2 => e = .returned (.int .i64 ac) ∧ Below w'.heap.size w' w2)
    (c8 : ∀ w' : World, Below w.heap.size w w' → Calls Tryz.prog 8 #[.int .i64 ab, .int .i64 bc, .int .i64 ac] w' fun e w2 => e = .returned (.bool true) ∧ Below w'.heap.size w' w2) :
    Calls Tryz.prog 3 #[.agg X, .agg Y, .agg Z] w fun e w' => e = .returned (.bool true) ∧ Below w.heap.size w w' := by
  have C0 := Aside0.mk c0
  have C1 := Aside0.mk c1
  have C2 := Aside0.mk c2
  have HBS := Aside0.mk hbs
  have C3 := Aside0.mk c3
  have CA := Aside0.mk ca
  have C4 := Aside0.mk c4
  have C5 := Aside0.mk c5
  have C6 := Aside0.mk c6
  have C7 := Aside0.mk c7
  have C8 := Aside0.mk c8
  clear c0 c1 c2 hbs c3 ca c4 c5 c6 c7 c8
  have HT := T3.start X Y Z w
  go_enter Tryz.func3, Tryz.ntmps3
  go_upto_region 1 with fail
  obtain ⟨W, eW⟩ : ∃ W, W = (((w.alloc (Obj.cells X 29)).alloc (Obj.cells Y 29)).alloc (Obj.cells Z 29)) := ⟨_, rfl⟩
  rw [← eW] at HT ⊢
  clear eW
  go_wp2_with (first | ((with_reducible refine gate_dst (N := 7) rfl ?_); (try (refine gate_guard (by rfl) ?_; dsimp only)); refine wpList_load_row rfl 29 _ rfl _ rfl 29 X (0, 0) _ HT.x Tryz.underlying29 rfl (sz_pyA HX.out) ?_) | ((with_reducible refine gate_dst (N := 11) rfl ?_); (try (refine gate_guard (by rfl) ?_; dsimp only)); refine wpList_load_row rfl 29 _ rfl _ rfl 29 Y (0, 0) _ HT.y Tryz.underlying29 rfl (sz_pyA HY.out) ?_) | ((with_reducible refine gate_dst (N := 16) rfl ?_); (try (refine gate_guard (by rfl) ?_; dsimp only)); refine wpList_load_row rfl 29 _ rfl _ rfl 29 Z (0, 0) _ HT.z Tryz.underlying29 rfl (sz_pyA HZ.out) ?_) | (go_at_call 4; (with_reducible refine (C0.out _ HT.b).mono ?_); rintro e w1 ⟨rfl, d1⟩; have HT1 := HT.on d1; clear HT d1; have HT := HT1; clear HT1) | (go_at_call 4; (with_reducible refine (C1.out _ HT.b).mono ?_); rintro e w1 ⟨rfl, d1⟩; have HT1 := HT.on d1; clear HT d1; have HT := HT1; clear HT1) | (go_at_call 4; (with_reducible refine (C2.out _ HT.b).mono ?_); rintro e w1 ⟨rfl, d1⟩; have HT1 := HT.on d1; clear HT d1; have HT := HT1; clear HT1) | ((with_reducible refine gate_dst (N := 20) rfl ?_); (try (refine gate_guard (by rfl) ?_; dsimp only)); refine wpList_load_row rfl 29 _ rfl _ rfl 29 X (0, 0) _ HT.x Tryz.underlying29 rfl (sz_pyA HX.out) ?_) | ((with_reducible refine gate_dst (N := 21) rfl ?_); (try (refine gate_guard (by rfl) ?_; dsimp only)); refine wpList_load_row rfl 29 _ rfl _ rfl 29 Y (0, 0) _ HT.y Tryz.underlying29 rfl (sz_pyA HY.out) ?_) | ((with_reducible refine gate_dst (N := 22) rfl ?_); (try (refine gate_guard (by rfl) ?_; dsimp only)); refine wpList_load_row rfl 29 _ rfl _ rfl 29 Z (0, 0) _ HT.z Tryz.underlying29 rfl (sz_pyA HZ.out) ?_) | ((with_reducible refine gate_dst (N := 23) rfl ?_); refine Kd.event_run rfl (run_bs rfl rfl rfl rfl (HBS.out _)) ?_; have HV := Aside0.mk HT.b; have HT1 := HT.on (below_alloc (Below.refl _ _) (Obj.cells R 29)); clear HT; have HT := HT1; clear HT1) | (go_at_call 5; (with_reducible refine (C3.out _ HV.out).mono ?_); rintro e w1 ⟨rfl, d1⟩; have HT1 := HT.on d1; clear HT d1; have HT := HT1; clear HT1))
  refine wp_region_held_drew (S := fun w' => T3 X Y Z w w') (by kernel_rfl) (HT.on (Below.drew (Below.refl _ _))) (fun HT1 => ?_)
  clear HT
  have HT : T3 X Y Z w _ := HT1
  clear HT1
  refine wpAnyH_ready (rs := [0]) (by kernel_rfl) (by simp) (cons_at (i := 0) rfl (fun K hK => ?_) AllReadyH.nil)
  go_simp
  go_at_call 6
  refine (CA.out _ HT.b).mono ?_
  rintro e w1 ⟨rfl, d1⟩
  try go_wp2_with fail
  refine hK.out _ _ (T3.on HT d1) (fun HT1 => ?_)
  clear hK K HT d1
  have HT : T3 X Y Z w _ := HT1
  clear HT1
  try simp only [Act.put, List.setIfInBounds_toArray, List.set_cons_zero, List.set_cons_succ]
  refine take_at 1 (.bool true) rfl (by kernel_rfl) (by kernel_rfl) (by kernel_rfl) (fun _ _ _ h => h) (Or.inl ⟨rfl, fun _ _ => rfl⟩) HT ?_
  try simp only [Act.put, List.setIfInBounds_toArray, List.set_cons_zero, List.set_cons_succ]
  refine take_at 2 (.agg X) rfl (by kernel_rfl) (by kernel_rfl) (by kernel_rfl) (fun _ _ _ h => h) (yld_py rfl _ rfl _ rfl X HX.out (fun _ h => h.x)) HT ?_
  try simp only [Act.put, List.setIfInBounds_toArray, List.set_cons_zero, List.set_cons_succ]
  refine take_at 3 (.agg X) rfl (by kernel_rfl) (by kernel_rfl) (by kernel_rfl) (fun _ _ _ h => h) (yld_py rfl _ rfl _ rfl X HX.out (fun _ h => h.x)) HT ?_
  try simp only [Act.put, List.setIfInBounds_toArray, List.set_cons_zero, List.set_cons_succ]
  refine wpAnyH_ready (rs := [4]) (by kernel_rfl) (by simp) (cons_at (i := 4) rfl (fun K hK => ?_) AllReadyH.nil)
  go_simp
  go_at_call 7
  refine (C4.out _ HT.b).mono ?_
  rintro e w1 ⟨rfl, d1⟩
  try go_wp2_with fail
  refine hK.out _ _ (T3.on HT d1) (fun HT1 => ?_)
  clear hK K HT d1
  have HT : T3 X Y Z w _ := HT1
  clear HT1
  try simp only [Act.put, List.setIfInBounds_toArray, List.set_cons_zero, List.set_cons_succ]
  refine take_at 5 (.bool true) rfl (by kernel_rfl) (by kernel_rfl) (by kernel_rfl) (fun _ _ _ h => h) (Or.inl ⟨rfl, fun _ _ => rfl⟩) HT ?_
  try simp only [Act.put, List.setIfInBounds_toArray, List.set_cons_zero, List.set_cons_succ]
  refine take_at 6 (.bool true) rfl (by kernel_rfl) (by kernel_rfl) (by kernel_rfl) (fun _ _ _ h => h) (Or.inl ⟨rfl, fun _ _ => rfl⟩) HT ?_
  try simp only [Act.put, List.setIfInBounds_toArray, List.set_cons_zero, List.set_cons_succ]
  refine take_at 7 (.bool true) rfl (by kernel_rfl) (by kernel_rfl) (by kernel_rfl) (fun _ _ _ h => h) (Or.inl ⟨rfl, fun _ _ => rfl⟩) HT ?_
  try simp only [Act.put, List.setIfInBounds_toArray, List.set_cons_zero, List.set_cons_succ]
  refine take_at 8 (.agg X) rfl (by kernel_rfl) (by kernel_rfl) (by kernel_rfl) (fun _ _ _ h => h) (yld_py rfl _ rfl _ rfl X HX.out (fun _ h => h.x)) HT ?_
  try simp only [Act.put, List.setIfInBounds_toArray, List.set_cons_zero, List.set_cons_succ]
  refine take_at 9 (.agg Y) rfl (by kernel_rfl) (by kernel_rfl) (by kernel_rfl) (fun _ _ _ h => h) (yld_py rfl _ rfl _ rfl Y HY.out (fun _ h => h.y)) HT ?_
  try simp only [Act.put, List.setIfInBounds_toArray, List.set_cons_zero, List.set_cons_succ]
  refine take_at 11 (.agg Y) rfl (by kernel_rfl) (by kernel_rfl) (by kernel_rfl) (fun _ _ _ h => h) (yld_py rfl _ rfl _ rfl Y HY.out (fun _ h => h.y)) HT ?_
  try simp only [Act.put, List.setIfInBounds_toArray, List.set_cons_zero, List.set_cons_succ]
  refine take_at 12 (.agg Z) rfl (by kernel_rfl) (by kernel_rfl) (by kernel_rfl) (fun _ _ _ h => h) (yld_py rfl _ rfl _ rfl Z HZ.out (fun _ h => h.z)) HT ?_
  try simp only [Act.put, List.setIfInBounds_toArray, List.set_cons_zero, List.set_cons_succ]
  refine take_at 14 (.agg X) rfl (by kernel_rfl) (by kernel_rfl) (by kernel_rfl) (fun _ _ _ h => h) (yld_py rfl _ rfl _ rfl X HX.out (fun _ h => h.x)) HT ?_
  try simp only [Act.put, List.setIfInBounds_toArray, List.set_cons_zero, List.set_cons_succ]
  refine take_at 15 (.agg Z) rfl (by kernel_rfl) (by kernel_rfl) (by kernel_rfl) (fun _ _ _ h => h) (yld_py rfl _ rfl _ rfl Z HZ.out (fun _ h => h.z)) HT ?_
  try simp only [Act.put, List.setIfInBounds_toArray, List.set_cons_zero, List.set_cons_succ]
  refine wpAnyH_ready (rs := [10]) (by kernel_rfl) (by simp) (cons_at (i := 10) rfl (fun K hK => ?_) AllReadyH.nil)
  go_simp
  go_at_call 7
  refine (C5.out _ HT.b).mono ?_
  rintro e w1 ⟨rfl, d1⟩
  try go_wp2_with fail
  refine hK.out _ _ (T3.on HT d1) (fun HT1 => ?_)
  clear hK K HT d1
  have HT : T3 X Y Z w _ := HT1
  clear HT1
  try simp only [Act.put, List.setIfInBounds_toArray, List.set_cons_zero, List.set_cons_succ]
  refine wpAnyH_ready (rs := [13]) (by kernel_rfl) (by simp) (cons_at (i := 13) rfl (fun K hK => ?_) AllReadyH.nil)
  go_simp
  go_at_call 7
  refine (C6.out _ HT.b).mono ?_
  rintro e w1 ⟨rfl, d1⟩
  try go_wp2_with fail
  refine hK.out _ _ (T3.on HT d1) (fun HT1 => ?_)
  clear hK K HT d1
  have HT : T3 X Y Z w _ := HT1
  clear HT1
  try simp only [Act.put, List.setIfInBounds_toArray, List.set_cons_zero, List.set_cons_succ]
  refine wpAnyH_ready (rs := [16]) (by kernel_rfl) (by simp) (cons_at (i := 16) rfl (fun K hK => ?_) AllReadyH.nil)
  go_simp
  go_at_call 7
  refine (C7.out _ HT.b).mono ?_
  rintro e w1 ⟨rfl, d1⟩
  try go_wp2_with fail
  refine hK.out _ _ (T3.on HT d1) (fun HT1 => ?_)
  clear hK K HT d1
  have HT : T3 X Y Z w _ := HT1
  clear HT1
  try simp only [Act.put, List.setIfInBounds_toArray, List.set_cons_zero, List.set_cons_succ]
  refine wpAnyH_ready (rs := [17]) (by kernel_rfl) (by simp) (cons_at (i := 17) rfl (fun K hK => ?_) AllReadyH.nil)
  go_simp
  go_at_call 8
  refine (C8.out _ HT.b).mono ?_
  rintro e w1 ⟨rfl, d1⟩
  try go_wp2_with fail
  refine hK.out _ _ (T3.on HT d1) (fun HT1 => ?_)
  clear hK K HT d1
  have HT : T3 X Y Z w _ := HT1
  clear HT1
  try simp only [Act.put, List.setIfInBounds_toArray, List.set_cons_zero, List.set_cons_succ]
  refine take_at 18 (.bool true) rfl (by kernel_rfl) (by kernel_rfl) (by kernel_rfl) (fun _ _ _ h => h) (Or.inl ⟨rfl, fun _ _ => rfl⟩) HT ?_
  try simp only [Act.put, List.setIfInBounds_toArray, List.set_cons_zero, List.set_cons_succ]
  refine wpAnyH_ready (rs := [19]) (by kernel_rfl) (by simp) (cons_at (i := 19) rfl (fun K hK => ?_) AllReadyH.nil)
  go_simp
  refine hK.out _ _ HT (fun _ => ?_)
  clear hK K
  try simp only [Act.put, List.setIfInBounds_toArray, List.set_cons_zero, List.set_cons_succ]
  refine wpAnyH_done (by kernel_rfl) ?_ _
  go_wp2_with fail
  go_ret
  exact ⟨rfl, HT.b⟩
end Go.Proofs.YtfmndbmlpfgbnaaGreatDoor.Giv
/- laws.pypi of three versions, over what it calls. Printed by wip/tool/genpyw.py. -/
namespace Go.Proofs.YtfmndbmlpfgbnaaGreatDoor.Giv
open Go.RowKit Go.Proofs.YtfmndbmlpfgbnaaGreatDoorW.PrintWords Go.Proofs.YtfmndbmlpfgbnaaGreatDoorW.PrintLast Go.Proofs.YtfmndbmlpfgbnaaGreatDoor.Pk Go.Proofs.YtfmndbmlpfgbnaaGreatDoor.Ord Go.Proofs.YtfmndbmlpfgbnaaGreatDoor.QN
set_option linter.unusedVariables false
set_option linter.unusedSimpArgs false

theorem put17 {w : World} {g : Nat} {z0 z1 z2 z3 z4 z5 z6 z7 z8 z9 z10 z11 z12 z13 z14 z15 z16 v0 v1 v2 v3 v4 v5 v6 v7 v8 v9 v10 v11 v12 v13 v14 v15 v16 : Value} (h : w.heap[g]? = some (Obj.cells #[z0, z1, z2, z3, z4, z5, z6, z7, z8, z9, z10, z11, z12, z13, z14, z15, z16] 29 (0, 0))) : (w.setCells g 0 [v0, v1, v2, v3, v4, v5, v6, v7, v8, v9, v10, v11, v12, v13, v14, v15, v16]).heap[g]? = some (Obj.cells #[v0, v1, v2, v3, v4, v5, v6, v7, v8, v9, v10, v11, v12, v13, v14, v15, v16] 29 (0, 0)) :=
  (blk_put (cs := #[v0, v1, v2, v3, v4, v5, v6, v7, v8, v9, v10, v11, v12, v13, v14, v15, z16]) (blk_put (cs := #[v0, v1, v2, v3, v4, v5, v6, v7, v8, v9, v10, v11, v12, v13, v14, z15, z16]) (blk_put (cs := #[v0, v1, v2, v3, v4, v5, v6, v7, v8, v9, v10, v11, v12, v13, z14, z15, z16]) (blk_put (cs := #[v0, v1, v2, v3, v4, v5, v6, v7, v8, v9, v10, v11, v12, z13, z14, z15, z16]) (blk_put (cs := #[v0, v1, v2, v3, v4, v5, v6, v7, v8, v9, v10, v11, z12, z13, z14, z15, z16]) (blk_put (cs := #[v0, v1, v2, v3, v4, v5, v6, v7, v8, v9, v10, z11, z12, z13, z14, z15, z16]) (blk_put (cs := #[v0, v1, v2, v3, v4, v5, v6, v7, v8, v9, z10, z11, z12, z13, z14, z15, z16]) (blk_put (cs := #[v0, v1, v2, v3, v4, v5, v6, v7, v8, z9, z10, z11, z12, z13, z14, z15, z16]) (blk_put (cs := #[v0, v1, v2, v3, v4, v5, v6, v7, z8, z9, z10, z11, z12, z13, z14, z15, z16]) (blk_put (cs := #[v0, v1, v2, v3, v4, v5, v6, z7, z8, z9, z10, z11, z12, z13, z14, z15, z16]) (blk_put (cs := #[v0, v1, v2, v3, v4, v5, z6, z7, z8, z9, z10, z11, z12, z13, z14, z15, z16]) (blk_put (cs := #[v0, v1, v2, v3, v4, z5, z6, z7, z8, z9, z10, z11, z12, z13, z14, z15, z16]) (blk_put (cs := #[v0, v1, v2, v3, z4, z5, z6, z7, z8, z9, z10, z11, z12, z13, z14, z15, z16]) (blk_put (cs := #[v0, v1, v2, z3, z4, z5, z6, z7, z8, z9, z10, z11, z12, z13, z14, z15, z16]) (blk_put (cs := #[v0, v1, z2, z3, z4, z5, z6, z7, z8, z9, z10, z11, z12, z13, z14, z15, z16]) (blk_put (cs := #[v0, z1, z2, z3, z4, z5, z6, z7, z8, z9, z10, z11, z12, z13, z14, z15, z16]) (blk_put (cs := #[z0, z1, z2, z3, z4, z5, z6, z7, z8, z9, z10, z11, z12, z13, z14, z15, z16]) h 0 v0 rfl) 1 v1 rfl) 2 v2 rfl) 3 v3 rfl) 4 v4 rfl) 5 v5 rfl) 6 v6 rfl) 7 v7 rfl) 8 v8 rfl) 9 v9 rfl) 10 v10 rfl) 11 v11 rfl) 12 v12 rfl) 13 v13 rfl) 14 v14 rfl) 15 v15 rfl) 16 v16 rfl)
theorem there17 {w : World} {g : Nat} {cs : Array Value} (h : w.heap[g]? = some (Obj.cells cs 29 (0, 0))) : w.there g 0 cs.size := fun j hj => by
  rw [Nat.zero_add]
  exact ⟨by rw [blk_cell h j, Array.getElem?_eq_getElem hj]; rfl, blk_frozen h j⟩
/-- The version's own box is as it was. -/
structure T1 (X : Array Value) (g : Nat) (w w' : World) : Prop where
  x : w'.heap[g]? = some (Obj.cells X 29 (0, 0))
  b : Below w.heap.size w w'
theorem T1.on {X : Array Value} {g : Nat} {w w1 w2 : World} (h : T1 X g w w1) (d : Below w1.heap.size w1 w2) : T1 X g w w2 := ⟨blk_below h.x d, below_then h.b h.b.size d⟩
theorem T1.cs {P : Py} {X : Array Value} {g : Nat} {w w' : World} (h : T1 X g w w') (e : X = pyA P) : w'.cell? ⟨g, 0, none⟩ = some (.bool P.e0) ∧ w'.cell? ⟨g, 1, none⟩ = some (.string P.e1) ∧ w'.cell? ⟨g, 2, none⟩ = some (.slice P.RA P.rn P.rc) ∧ w'.cell? ⟨g, 4, none⟩ = some (.string P.a1) ∧ w'.cell? ⟨g, 5, none⟩ = some (.bool P.a2) ∧ w'.cell? ⟨g, 6, none⟩ = some (.string P.a3) ∧ w'.cell? ⟨g, 8, none⟩ = some (.string P.b1) ∧ w'.cell? ⟨g, 9, none⟩ = some (.bool P.b2) ∧ w'.cell? ⟨g, 10, none⟩ = some (.string P.b3) ∧ w'.cell? ⟨g, 12, none⟩ = some (.string P.d1) ∧ w'.cell? ⟨g, 13, none⟩ = some (.bool P.d2) ∧ w'.cell? ⟨g, 14, none⟩ = some (.string P.d3) ∧ w'.cell? ⟨g, 15, none⟩ = some (.slice P.LA P.ln P.lc) ∧ w'.cell? ⟨g, 16, none⟩ = some (.slice P.GA P.gn P.gc) := by
  have hx := h.x
  rw [e] at hx
  exact ⟨(blk_cell hx 0).trans rfl, (blk_cell hx 1).trans rfl, (blk_cell hx 2).trans rfl, (blk_cell hx 4).trans rfl, (blk_cell hx 5).trans rfl, (blk_cell hx 6).trans rfl, (blk_cell hx 8).trans rfl, (blk_cell hx 9).trans rfl, (blk_cell hx 10).trans rfl, (blk_cell hx 12).trans rfl, (blk_cell hx 13).trans rfl, (blk_cell hx 14).trans rfl, (blk_cell hx 15).trans rfl, (blk_cell hx 16).trans rfl⟩
/-- What laws.pypi asks of one version. -/
structure RowC (P : Py) (w : World) (t0 t1 t2 t3 t4 t5 : Bool) : Prop where
  k : ∀ w' : World, Below w.heap.size w w' → Calls Tryz.prog 13 #[.agg (pyA P)] w' fun e w2 => e = .returned (.bool t0) ∧ Below w'.heap.size w' w2
  r : ∀ w' : World, Below w.heap.size w w' → Calls Tryz.prog 14 #[.slice P.RA P.rn P.rc] w' fun e w2 => e = .returned (.bool t1) ∧ Below w'.heap.size w' w2
  n : ∀ w' : World, Below w.heap.size w w' → Calls Tryz.prog 14 #[.slice (some ⟨w'.heap.size, 0, none⟩) 4 4] (w'.alloc (Obj.cells #[.bool P.e0, .string P.e1, .bool P.a2, .string P.a3, .bool P.b2, .string P.b3, .bool P.d2, .string P.d3] 23)) fun e w2 => e = .returned (.bool t2) ∧ Below (w'.alloc (Obj.cells #[.bool P.e0, .string P.e1, .bool P.a2, .string P.a3, .bool P.b2, .string P.b3, .bool P.d2, .string P.d3] 23)).heap.size (w'.alloc (Obj.cells #[.bool P.e0, .string P.e1, .bool P.a2, .string P.a3, .bool P.b2, .string P.b3, .bool P.d2, .string P.d3] 23)) w2
  l : ∀ w' : World, Below w.heap.size w w' → Calls Tryz.prog 15 #[.slice P.LA P.ln P.lc] w' fun e w2 => e = .returned (.bool t3) ∧ Below w'.heap.size w' w2
  g : ∀ w' : World, Below w.heap.size w w' → Calls Tryz.prog 15 #[.slice P.GA P.gn P.gc] w' fun e w2 => e = .returned (.bool t4) ∧ Below w'.heap.size w' w2
  t : ∀ w' : World, Below w.heap.size w w' → Calls Tryz.prog 15 #[.slice (some ⟨w'.heap.size, 0, none⟩) 3 3] (w'.alloc (Obj.cells #[.string P.a1, .string P.b1, .string P.d1] 9)) fun e w2 => e = .returned (.bool t5) ∧ Below (w'.alloc (Obj.cells #[.string P.a1, .string P.b1, .string P.d1] 9)).heap.size (w'.alloc (Obj.cells #[.string P.a1, .string P.b1, .string P.d1] 9)) w2
theorem run_bs4 {o : Oper} {a : Act} {W : World} {t e : TypeId} {R : Array Value} {x0 x1 x2 x3 : Operand} {v0 v1 v2 v3 : Value} (ho : o.op = .buildSlice t 4 #[(0, x0), (1, x1), (2, x2), (3, x3)]) (h0 : a.eval x0 = v0) (h1 : a.eval x1 = v1) (h2 : a.eval x2 = v2) (h3 : a.eval x3 = v3)
    (h : (Instr.buildSlice t 4 #[(0, v0), (1, v1), (2, v2), (3, v3)]).run Tryz.prog W = .ok (.slice (some ⟨W.heap.size, 0, none⟩) 4 4) (W.alloc (Obj.cells R e))) :
    (execOp a.eval o).run Tryz.prog W = .ok (.value (.slice (some ⟨W.heap.size, 0, none⟩) 4 4)) (W.alloc (Obj.cells R e)) := by
  unfold execOp
  simp only [ho]
  simp [h0, h1, h2, h3, h]
theorem run_bs3' {o : Oper} {a : Act} {W : World} {t e : TypeId} {R : Array Value} {x0 x1 x2 : Operand} {v0 v1 v2 : Value} (ho : o.op = .buildSlice t 3 #[(0, x0), (1, x1), (2, x2)]) (h0 : a.eval x0 = v0) (h1 : a.eval x1 = v1) (h2 : a.eval x2 = v2)
    (h : (Instr.buildSlice t 3 #[(0, v0), (1, v1), (2, v2)]).run Tryz.prog W = .ok (.slice (some ⟨W.heap.size, 0, none⟩) 3 3) (W.alloc (Obj.cells R e))) :
    (execOp a.eval o).run Tryz.prog W = .ok (.value (.slice (some ⟨W.heap.size, 0, none⟩) 3 3)) (W.alloc (Obj.cells R e)) := by
  unfold execOp
  simp only [ho]
  simp [h0, h1, h2, h]
theorem bs_nums (P : Py) (W : World) : (Instr.buildSlice 24 4 #[(0, .agg #[.bool P.e0, .string P.e1]), (1, .agg #[.bool P.a2, .string P.a3]), (2, .agg #[.bool P.b2, .string P.b3]), (3, .agg #[.bool P.d2, .string P.d3])]).run Tryz.prog W = .ok (.slice (some ⟨W.heap.size, 0, none⟩) 4 4) (W.alloc (Obj.cells #[.bool P.e0, .string P.e1, .bool P.a2, .string P.a3, .bool P.b2, .string P.b3, .bool P.d2, .string P.d3] 23)) := by
  kernel_rfl
theorem bs_lets (P : Py) (W : World) : (Instr.buildSlice 27 3 #[(0, .string P.a1), (1, .string P.b1), (2, .string P.d1)]).run Tryz.prog W = .ok (.slice (some ⟨W.heap.size, 0, none⟩) 3 3) (W.alloc (Obj.cells #[.string P.a1, .string P.b1, .string P.d1] 9)) := by
  kernel_rfl
end Go.Proofs.YtfmndbmlpfgbnaaGreatDoor.Giv
/- The walk of laws.pypi of three versions. Printed by wip/tool/genpyx.py. -/
namespace Go.Proofs.YtfmndbmlpfgbnaaGreatDoor.Giv
open Go.RowKit Go.Proofs.YtfmndbmlpfgbnaaGreatDoorW.PrintWords Go.Proofs.YtfmndbmlpfgbnaaGreatDoorW.PrintLast Go.Proofs.YtfmndbmlpfgbnaaGreatDoor.Pk Go.Proofs.YtfmndbmlpfgbnaaGreatDoor.Ord Go.Proofs.YtfmndbmlpfgbnaaGreatDoor.QN
set_option linter.unusedVariables false
set_option linter.unusedSimpArgs false

theorem meas3 {j : Nat} (h : j < 3) : 3 - (intOf (Value.int .i64 ((j + 1 : Nat) : Int))).toNat < 3 - (intOf (Value.int .i64 (j : Int))).toNat := by
  show 3 - (((j + 1 : Nat) : Int)).toNat < 3 - ((j : Int)).toNat
  omega
theorem bset {B b : Nat} {a : World} (hb : B ≤ b) : ∀ (vs : List Value) (o : Nat) (w : World), Below B a w → Below B a (w.setCells b o vs)
  | [], _, _, h => h
  | v :: r, o, w, h => by
    rw [World.setCells]
    exact bset hb r _ _ (h.setCell (p := ⟨b, o, none⟩) hb v)
theorem tt6 {t : Nat → Nat → Bool} {j : Nat} (hk : ∀ j' i, j' < j → i < 6 → t j' i = true) (h0 : t j 0 = true) (h1 : t j 1 = true) (h2 : t j 2 = true) (h3 : t j 3 = true) (h4 : t j 4 = true) (h5 : t j 5 = true) (j' i : Nat) (hj : j' < j + 1) (hi : i < 6) : t j' i = true := by
  rcases Nat.lt_or_ge j' j with hl | hl
  · exact hk j' i hl hi
  · obtain rfl : j' = j := by omega
    have : i = 0 ∨ i = 1 ∨ i = 2 ∨ i = 3 ∨ i = 4 ∨ i = 5 := by omega
    rcases this with rfl | rfl | rfl | rfl | rfl | rfl <;> assumption

set_option maxRecDepth 100000 in
set_option maxHeartbeats 20000000 in
theorem pypiG (p : Nat → Py) (t : Nat → Nat → Bool) (r : Bool) (h : Nat) (w : World) (hrow : ∀ j, j < 3 → w.rangeAt h (j * 17) (pyA (p j)).toList) (hc : ∀ j, j < 3 → RowC (p j) w (t j 0) (t j 1) (t j 2) (t j 3) (t j 4) (t j 5))
    (rneg : ∀ j i, j < 3 → i < 6 → t j i = false → r = false) (rpos : (∀ j i, j < 3 → i < 6 → t j i = true) → r = true) :
    Calls Tryz.prog 5 #[.slice (some ⟨h, 0, none⟩) 3 3] w fun e w' => e = .returned (.bool r) ∧ Below w.heap.size w w' := by
  have HROW := Aside0.mk hrow
  have HC := Aside0.mk hc
  have RN := Aside0.mk rneg
  have RP := Aside0.mk rpos
  have HB := Aside0.mk (Below.refl w.heap.size w)
  clear hrow hc rneg rpos
  go_enter Tryz.func5, Tryz.ntmps5
  go_wp2
  go_loopw [7] (fun v7 wr => ∃ j : Nat, v7 = .int .i64 j ∧ j ≤ 3 ∧ (∀ j' i, j' < j → i < 6 → t j' i = true) ∧ Below w.heap.size w wr) (fun v7 wr => 3 - (intOf v7).toNat)
  case atStart => exact ⟨0, rfl, Nat.zero_le _, fun _ _ h => absurd h (Nat.not_lt_zero _), HB.out⟩
  case round =>
    clear HB
    obtain ⟨j, rfl, hj, hk, hb⟩ := hrel
    have HB := Aside0.mk hb
    clear hb
    by_cases hlt : j < 3
    · have C := HC.out j hlt
      have g3 : (j : Int) < 3 := by omega
      have q0 : ((0 : Int) ≤ (j : Int)) = True := eq_true (by omega)
      have wk : wrap64 ((j : Int) + 1) = ((j + 1 : Nat) : Int) := Pk.wr j (by omega)
      have JL := Aside0.mk hlt
      have HK := Aside0.mk hk
      have hr3 : wr.rangeAt h (j * 17) (pyA (p j)).toList := fun i v hv => by
        have := HROW.out j hlt i v hv
        exact pw_cell_below HB.out this
      obtain ⟨P, hP⟩ : ∃ P, P = p j := ⟨_, rfl⟩
      rw [← hP] at C hr3
      obtain ⟨X, hxp⟩ : ∃ X, X = pyA P := ⟨_, rfl⟩
      rw [← hxp] at hr3
      have HX := Aside0.mk (show X.size = 17 by rw [hxp]; rfl)
      have H1C := Aside0.mk (show X.all (·.oneCell') = true by rw [hxp]; simp [Value.oneCell'])
      have HR3 := Aside0.mk hr3
      have HXP := Aside0.mk hxp
      clear hr3 hk hj hP
      cases h0 : t j 0 with
      | false => as_aux_lemma =>
        rw [h0] at C
        have TT := Aside0.mk h0
        clear h0
        have C0 := Aside0.mk C.k
        rw [← hxp] at C0
        clear C hxp HROW HC
        go_upto_region 4 with (first | ((with_reducible refine gate_dst (N := 10) rfl ?_); refine wpList_load_mid rfl 29 _ rfl _ _ rfl X.toList _ ?hc Tryz.underlying29 rfl (sz_py.trans (congrArg some (by rw [Array.length_toList]; exact HX.out.symm))) ?_; (case hc => exact HR3.out); dsimp only) | ((with_reducible refine gate_dst (N := 4) rfl ?_); refine box_event ?hg (N := 4) ?hd (cs := #[.bool false, .string (⟨#[]⟩ : ByteArray), .slice none 0 0, .bool false, .string (⟨#[]⟩ : ByteArray), .bool false, .string (⟨#[]⟩ : ByteArray), .bool false, .string (⟨#[]⟩ : ByteArray), .bool false, .string (⟨#[]⟩ : ByteArray), .bool false, .string (⟨#[]⟩ : ByteArray), .bool false, .string (⟨#[]⟩ : ByteArray), .slice none 0 0, .slice none 0 0]) (t := 29) ?hr ?_; (case hd => rfl); (case hg => rfl); (case hr => first | (go_simp; done) | (go_simp; rfl)); intro g hg w3 hbox hb; have HBx := Aside0.mk hbox; have GE := Aside0.mk (show w.heap.size ≤ g by rw [hg]; exact HB.out.size); have HB3 := Aside0.mk (below_then HB.out HB.out.size hb); clear hbox hb hg) | ((with_reducible refine gate_store (t := 29) (p := 4) (v := .tmp 10) rfl ?_); refine wpList_store_mid rfl 29 _ _ rfl _ _ X rfl rfl (HX.out ▸ there17 HBx.out) (sz_pyA HX.out) (H1C.out) ?_))
        have hx0 : (w3.setCells g 0 X.toList).heap[g]? = some (Obj.cells X 29 (0, 0)) := by
          rw [HXP.out]
          exact put17 HBx.out
        have HT0 : T1 X g w (w3.setCells g 0 X.toList) := ⟨hx0, bset GE.out _ _ _ HB3.out⟩
        clear hx0
        obtain ⟨W, eW⟩ : ∃ W, W = w3.setCells g 0 X.toList := ⟨_, rfl⟩
        rw [← eW] at HT0 ⊢
        clear eW HBx HB3 HR3 HB
        have HT := HT0
        clear HT0
        obtain ⟨k0, k1, k2, k4, k5, k6, k8, k9, k10, k12, k13, k14, k15, k16⟩ := HT.cs HXP.out
        go_wp2_with (first | ((with_reducible refine gate_dst (N := 11) rfl ?_); refine wpList_load_row rfl 29 _ rfl _ rfl 29 X (0, 0) _ HT.x Tryz.underlying29 rfl (sz_pyA HX.out) ?_) | (go_at_call 13; (with_reducible refine (C0.out _ HT.b).mono ?_); rintro e w1 ⟨rfl, d1⟩; have HT1 := HT.on d1; clear HT d1; have HT := HT1; clear HT1; clear k0 k1 k2 k4 k5 k6 k8 k9 k10 k12 k13 k14 k15 k16; obtain ⟨k0, k1, k2, k4, k5, k6, k8, k9, k10, k12, k13, k14, k15, k16⟩ := HT.cs HXP.out) | (go_at_call 14; (with_reducible refine (C1.out _ HT.b).mono ?_); rintro e w1 ⟨rfl, d1⟩; have HT1 := HT.on d1; clear HT d1; have HT := HT1; clear HT1; clear k0 k1 k2 k4 k5 k6 k8 k9 k10 k12 k13 k14 k15 k16; obtain ⟨k0, k1, k2, k4, k5, k6, k8, k9, k10, k12, k13, k14, k15, k16⟩ := HT.cs HXP.out) | (go_at_call 14; (with_reducible refine (C2.out _ HV.out).mono ?_); rintro e w1 ⟨rfl, d1⟩; have HT1 := HT.on d1; clear HT d1; have HT := HT1; clear HT1; clear k0 k1 k2 k4 k5 k6 k8 k9 k10 k12 k13 k14 k15 k16; obtain ⟨k0, k1, k2, k4, k5, k6, k8, k9, k10, k12, k13, k14, k15, k16⟩ := HT.cs HXP.out) | (go_at_call 15; (with_reducible refine (C3.out _ HT.b).mono ?_); rintro e w1 ⟨rfl, d1⟩; have HT1 := HT.on d1; clear HT d1; have HT := HT1; clear HT1; clear k0 k1 k2 k4 k5 k6 k8 k9 k10 k12 k13 k14 k15 k16; obtain ⟨k0, k1, k2, k4, k5, k6, k8, k9, k10, k12, k13, k14, k15, k16⟩ := HT.cs HXP.out) | (go_at_call 15; (with_reducible refine (C4.out _ HT.b).mono ?_); rintro e w1 ⟨rfl, d1⟩; have HT1 := HT.on d1; clear HT d1; have HT := HT1; clear HT1; clear k0 k1 k2 k4 k5 k6 k8 k9 k10 k12 k13 k14 k15 k16; obtain ⟨k0, k1, k2, k4, k5, k6, k8, k9, k10, k12, k13, k14, k15, k16⟩ := HT.cs HXP.out) | (go_at_call 15; (with_reducible refine (C5.out _ HV.out).mono ?_); rintro e w1 ⟨rfl, d1⟩; have HT1 := HT.on d1; clear HT d1; have HT := HT1; clear HT1; clear k0 k1 k2 k4 k5 k6 k8 k9 k10 k12 k13 k14 k15 k16; obtain ⟨k0, k1, k2, k4, k5, k6, k8, k9, k10, k12, k13, k14, k15, k16⟩ := HT.cs HXP.out) | ((with_reducible refine gate_dst (N := 32) rfl ?_); (try (refine gate_guard (by rfl) ?_; dsimp only)); refine Kd.event_run rfl (run_bs4 rfl rfl rfl rfl rfl (bs_nums P _)) ?_; have HV := Aside0.mk HT.b; have HT1 := HT.on (below_alloc (Below.refl _ _) (Obj.cells #[.bool P.e0, .string P.e1, .bool P.a2, .string P.a3, .bool P.b2, .string P.b3, .bool P.d2, .string P.d3] 23)); clear HT; have HT := HT1; clear HT1) | ((with_reducible refine gate_dst (N := 58) rfl ?_); (try (refine gate_guard (by rfl) ?_; dsimp only)); refine Kd.event_run rfl (run_bs3' rfl rfl rfl rfl (bs_lets P _)) ?_; have HV := Aside0.mk HT.b; have HT1 := HT.on (below_alloc (Below.refl _ _) (Obj.cells #[.string P.a1, .string P.b1, .string P.d1] 9)); clear HT; have HT := HT1; clear HT1))
        go_ret
        exact ⟨by rw [RN.out j 0 JL.out (by decide) TT.out]; rfl, HT.b⟩
      | true =>
        rw [h0] at C
        cases h1 : t j 1 with
        | false => as_aux_lemma =>
          rw [h1] at C
          have TT := Aside0.mk h1
          clear h0 h1
          have C0 := Aside0.mk C.k
          have C1 := Aside0.mk C.r
          rw [← hxp] at C0
          clear C hxp HROW HC
          go_upto_region 4 with (first | ((with_reducible refine gate_dst (N := 10) rfl ?_); refine wpList_load_mid rfl 29 _ rfl _ _ rfl X.toList _ ?hc Tryz.underlying29 rfl (sz_py.trans (congrArg some (by rw [Array.length_toList]; exact HX.out.symm))) ?_; (case hc => exact HR3.out); dsimp only) | ((with_reducible refine gate_dst (N := 4) rfl ?_); refine box_event ?hg (N := 4) ?hd (cs := #[.bool false, .string (⟨#[]⟩ : ByteArray), .slice none 0 0, .bool false, .string (⟨#[]⟩ : ByteArray), .bool false, .string (⟨#[]⟩ : ByteArray), .bool false, .string (⟨#[]⟩ : ByteArray), .bool false, .string (⟨#[]⟩ : ByteArray), .bool false, .string (⟨#[]⟩ : ByteArray), .bool false, .string (⟨#[]⟩ : ByteArray), .slice none 0 0, .slice none 0 0]) (t := 29) ?hr ?_; (case hd => rfl); (case hg => rfl); (case hr => first | (go_simp; done) | (go_simp; rfl)); intro g hg w3 hbox hb; have HBx := Aside0.mk hbox; have GE := Aside0.mk (show w.heap.size ≤ g by rw [hg]; exact HB.out.size); have HB3 := Aside0.mk (below_then HB.out HB.out.size hb); clear hbox hb hg) | ((with_reducible refine gate_store (t := 29) (p := 4) (v := .tmp 10) rfl ?_); refine wpList_store_mid rfl 29 _ _ rfl _ _ X rfl rfl (HX.out ▸ there17 HBx.out) (sz_pyA HX.out) (H1C.out) ?_))
          have hx0 : (w3.setCells g 0 X.toList).heap[g]? = some (Obj.cells X 29 (0, 0)) := by
            rw [HXP.out]
            exact put17 HBx.out
          have HT0 : T1 X g w (w3.setCells g 0 X.toList) := ⟨hx0, bset GE.out _ _ _ HB3.out⟩
          clear hx0
          obtain ⟨W, eW⟩ : ∃ W, W = w3.setCells g 0 X.toList := ⟨_, rfl⟩
          rw [← eW] at HT0 ⊢
          clear eW HBx HB3 HR3 HB
          have HT := HT0
          clear HT0
          obtain ⟨k0, k1, k2, k4, k5, k6, k8, k9, k10, k12, k13, k14, k15, k16⟩ := HT.cs HXP.out
          go_wp2_with (first | ((with_reducible refine gate_dst (N := 11) rfl ?_); refine wpList_load_row rfl 29 _ rfl _ rfl 29 X (0, 0) _ HT.x Tryz.underlying29 rfl (sz_pyA HX.out) ?_) | (go_at_call 13; (with_reducible refine (C0.out _ HT.b).mono ?_); rintro e w1 ⟨rfl, d1⟩; have HT1 := HT.on d1; clear HT d1; have HT := HT1; clear HT1; clear k0 k1 k2 k4 k5 k6 k8 k9 k10 k12 k13 k14 k15 k16; obtain ⟨k0, k1, k2, k4, k5, k6, k8, k9, k10, k12, k13, k14, k15, k16⟩ := HT.cs HXP.out) | (go_at_call 14; (with_reducible refine (C1.out _ HT.b).mono ?_); rintro e w1 ⟨rfl, d1⟩; have HT1 := HT.on d1; clear HT d1; have HT := HT1; clear HT1; clear k0 k1 k2 k4 k5 k6 k8 k9 k10 k12 k13 k14 k15 k16; obtain ⟨k0, k1, k2, k4, k5, k6, k8, k9, k10, k12, k13, k14, k15, k16⟩ := HT.cs HXP.out) | (go_at_call 14; (with_reducible refine (C2.out _ HV.out).mono ?_); rintro e w1 ⟨rfl, d1⟩; have HT1 := HT.on d1; clear HT d1; have HT := HT1; clear HT1; clear k0 k1 k2 k4 k5 k6 k8 k9 k10 k12 k13 k14 k15 k16; obtain ⟨k0, k1, k2, k4, k5, k6, k8, k9, k10, k12, k13, k14, k15, k16⟩ := HT.cs HXP.out) | (go_at_call 15; (with_reducible refine (C3.out _ HT.b).mono ?_); rintro e w1 ⟨rfl, d1⟩; have HT1 := HT.on d1; clear HT d1; have HT := HT1; clear HT1; clear k0 k1 k2 k4 k5 k6 k8 k9 k10 k12 k13 k14 k15 k16; obtain ⟨k0, k1, k2, k4, k5, k6, k8, k9, k10, k12, k13, k14, k15, k16⟩ := HT.cs HXP.out) | (go_at_call 15; (with_reducible refine (C4.out _ HT.b).mono ?_); rintro e w1 ⟨rfl, d1⟩; have HT1 := HT.on d1; clear HT d1; have HT := HT1; clear HT1; clear k0 k1 k2 k4 k5 k6 k8 k9 k10 k12 k13 k14 k15 k16; obtain ⟨k0, k1, k2, k4, k5, k6, k8, k9, k10, k12, k13, k14, k15, k16⟩ := HT.cs HXP.out) | (go_at_call 15; (with_reducible refine (C5.out _ HV.out).mono ?_); rintro e w1 ⟨rfl, d1⟩; have HT1 := HT.on d1; clear HT d1; have HT := HT1; clear HT1; clear k0 k1 k2 k4 k5 k6 k8 k9 k10 k12 k13 k14 k15 k16; obtain ⟨k0, k1, k2, k4, k5, k6, k8, k9, k10, k12, k13, k14, k15, k16⟩ := HT.cs HXP.out) | ((with_reducible refine gate_dst (N := 32) rfl ?_); (try (refine gate_guard (by rfl) ?_; dsimp only)); refine Kd.event_run rfl (run_bs4 rfl rfl rfl rfl rfl (bs_nums P _)) ?_; have HV := Aside0.mk HT.b; have HT1 := HT.on (below_alloc (Below.refl _ _) (Obj.cells #[.bool P.e0, .string P.e1, .bool P.a2, .string P.a3, .bool P.b2, .string P.b3, .bool P.d2, .string P.d3] 23)); clear HT; have HT := HT1; clear HT1) | ((with_reducible refine gate_dst (N := 58) rfl ?_); (try (refine gate_guard (by rfl) ?_; dsimp only)); refine Kd.event_run rfl (run_bs3' rfl rfl rfl rfl (bs_lets P _)) ?_; have HV := Aside0.mk HT.b; have HT1 := HT.on (below_alloc (Below.refl _ _) (Obj.cells #[.string P.a1, .string P.b1, .string P.d1] 9)); clear HT; have HT := HT1; clear HT1))
          go_ret
          exact ⟨by rw [RN.out j 1 JL.out (by decide) TT.out]; rfl, HT.b⟩
        | true =>
          rw [h1] at C
          cases h2 : t j 2 with
          | false => as_aux_lemma =>
            rw [h2] at C
            have TT := Aside0.mk h2
            clear h0 h1 h2
            have C0 := Aside0.mk C.k
            have C1 := Aside0.mk C.r
            have C2 := Aside0.mk C.n
            rw [← hxp] at C0
            clear C hxp HROW HC
            go_upto_region 4 with (first | ((with_reducible refine gate_dst (N := 10) rfl ?_); refine wpList_load_mid rfl 29 _ rfl _ _ rfl X.toList _ ?hc Tryz.underlying29 rfl (sz_py.trans (congrArg some (by rw [Array.length_toList]; exact HX.out.symm))) ?_; (case hc => exact HR3.out); dsimp only) | ((with_reducible refine gate_dst (N := 4) rfl ?_); refine box_event ?hg (N := 4) ?hd (cs := #[.bool false, .string (⟨#[]⟩ : ByteArray), .slice none 0 0, .bool false, .string (⟨#[]⟩ : ByteArray), .bool false, .string (⟨#[]⟩ : ByteArray), .bool false, .string (⟨#[]⟩ : ByteArray), .bool false, .string (⟨#[]⟩ : ByteArray), .bool false, .string (⟨#[]⟩ : ByteArray), .bool false, .string (⟨#[]⟩ : ByteArray), .slice none 0 0, .slice none 0 0]) (t := 29) ?hr ?_; (case hd => rfl); (case hg => rfl); (case hr => first | (go_simp; done) | (go_simp; rfl)); intro g hg w3 hbox hb; have HBx := Aside0.mk hbox; have GE := Aside0.mk (show w.heap.size ≤ g by rw [hg]; exact HB.out.size); have HB3 := Aside0.mk (below_then HB.out HB.out.size hb); clear hbox hb hg) | ((with_reducible refine gate_store (t := 29) (p := 4) (v := .tmp 10) rfl ?_); refine wpList_store_mid rfl 29 _ _ rfl _ _ X rfl rfl (HX.out ▸ there17 HBx.out) (sz_pyA HX.out) (H1C.out) ?_))
            have hx0 : (w3.setCells g 0 X.toList).heap[g]? = some (Obj.cells X 29 (0, 0)) := by
              rw [HXP.out]
              exact put17 HBx.out
            have HT0 : T1 X g w (w3.setCells g 0 X.toList) := ⟨hx0, bset GE.out _ _ _ HB3.out⟩
            clear hx0
            obtain ⟨W, eW⟩ : ∃ W, W = w3.setCells g 0 X.toList := ⟨_, rfl⟩
            rw [← eW] at HT0 ⊢
            clear eW HBx HB3 HR3 HB
            have HT := HT0
            clear HT0
            obtain ⟨k0, k1, k2, k4, k5, k6, k8, k9, k10, k12, k13, k14, k15, k16⟩ := HT.cs HXP.out
            go_wp2_with (first | ((with_reducible refine gate_dst (N := 11) rfl ?_); refine wpList_load_row rfl 29 _ rfl _ rfl 29 X (0, 0) _ HT.x Tryz.underlying29 rfl (sz_pyA HX.out) ?_) | (go_at_call 13; (with_reducible refine (C0.out _ HT.b).mono ?_); rintro e w1 ⟨rfl, d1⟩; have HT1 := HT.on d1; clear HT d1; have HT := HT1; clear HT1; clear k0 k1 k2 k4 k5 k6 k8 k9 k10 k12 k13 k14 k15 k16; obtain ⟨k0, k1, k2, k4, k5, k6, k8, k9, k10, k12, k13, k14, k15, k16⟩ := HT.cs HXP.out) | (go_at_call 14; (with_reducible refine (C1.out _ HT.b).mono ?_); rintro e w1 ⟨rfl, d1⟩; have HT1 := HT.on d1; clear HT d1; have HT := HT1; clear HT1; clear k0 k1 k2 k4 k5 k6 k8 k9 k10 k12 k13 k14 k15 k16; obtain ⟨k0, k1, k2, k4, k5, k6, k8, k9, k10, k12, k13, k14, k15, k16⟩ := HT.cs HXP.out) | (go_at_call 14; (with_reducible refine (C2.out _ HV.out).mono ?_); rintro e w1 ⟨rfl, d1⟩; have HT1 := HT.on d1; clear HT d1; have HT := HT1; clear HT1; clear k0 k1 k2 k4 k5 k6 k8 k9 k10 k12 k13 k14 k15 k16; obtain ⟨k0, k1, k2, k4, k5, k6, k8, k9, k10, k12, k13, k14, k15, k16⟩ := HT.cs HXP.out) | (go_at_call 15; (with_reducible refine (C3.out _ HT.b).mono ?_); rintro e w1 ⟨rfl, d1⟩; have HT1 := HT.on d1; clear HT d1; have HT := HT1; clear HT1; clear k0 k1 k2 k4 k5 k6 k8 k9 k10 k12 k13 k14 k15 k16; obtain ⟨k0, k1, k2, k4, k5, k6, k8, k9, k10, k12, k13, k14, k15, k16⟩ := HT.cs HXP.out) | (go_at_call 15; (with_reducible refine (C4.out _ HT.b).mono ?_); rintro e w1 ⟨rfl, d1⟩; have HT1 := HT.on d1; clear HT d1; have HT := HT1; clear HT1; clear k0 k1 k2 k4 k5 k6 k8 k9 k10 k12 k13 k14 k15 k16; obtain ⟨k0, k1, k2, k4, k5, k6, k8, k9, k10, k12, k13, k14, k15, k16⟩ := HT.cs HXP.out) | (go_at_call 15; (with_reducible refine (C5.out _ HV.out).mono ?_); rintro e w1 ⟨rfl, d1⟩; have HT1 := HT.on d1; clear HT d1; have HT := HT1; clear HT1; clear k0 k1 k2 k4 k5 k6 k8 k9 k10 k12 k13 k14 k15 k16; obtain ⟨k0, k1, k2, k4, k5, k6, k8, k9, k10, k12, k13, k14, k15, k16⟩ := HT.cs HXP.out) | ((with_reducible refine gate_dst (N := 32) rfl ?_); (try (refine gate_guard (by rfl) ?_; dsimp only)); refine Kd.event_run rfl (run_bs4 rfl rfl rfl rfl rfl (bs_nums P _)) ?_; have HV := Aside0.mk HT.b; have HT1 := HT.on (below_alloc (Below.refl _ _) (Obj.cells #[.bool P.e0, .string P.e1, .bool P.a2, .string P.a3, .bool P.b2, .string P.b3, .bool P.d2, .string P.d3] 23)); clear HT; have HT := HT1; clear HT1) | ((with_reducible refine gate_dst (N := 58) rfl ?_); (try (refine gate_guard (by rfl) ?_; dsimp only)); refine Kd.event_run rfl (run_bs3' rfl rfl rfl rfl (bs_lets P _)) ?_; have HV := Aside0.mk HT.b; have HT1 := HT.on (below_alloc (Below.refl _ _) (Obj.cells #[.string P.a1, .string P.b1, .string P.d1] 9)); clear HT; have HT := HT1; clear HT1))
            go_ret
            exact ⟨by rw [RN.out j 2 JL.out (by decide) TT.out]; rfl, HT.b⟩
          | true =>
            rw [h2] at C
            cases h3 : t j 3 with
            | false => as_aux_lemma =>
              rw [h3] at C
              have TT := Aside0.mk h3
              clear h0 h1 h2 h3
              have C0 := Aside0.mk C.k
              have C1 := Aside0.mk C.r
              have C2 := Aside0.mk C.n
              have C3 := Aside0.mk C.l
              rw [← hxp] at C0
              clear C hxp HROW HC
              go_upto_region 4 with (first | ((with_reducible refine gate_dst (N := 10) rfl ?_); refine wpList_load_mid rfl 29 _ rfl _ _ rfl X.toList _ ?hc Tryz.underlying29 rfl (sz_py.trans (congrArg some (by rw [Array.length_toList]; exact HX.out.symm))) ?_; (case hc => exact HR3.out); dsimp only) | ((with_reducible refine gate_dst (N := 4) rfl ?_); refine box_event ?hg (N := 4) ?hd (cs := #[.bool false, .string (⟨#[]⟩ : ByteArray), .slice none 0 0, .bool false, .string (⟨#[]⟩ : ByteArray), .bool false, .string (⟨#[]⟩ : ByteArray), .bool false, .string (⟨#[]⟩ : ByteArray), .bool false, .string (⟨#[]⟩ : ByteArray), .bool false, .string (⟨#[]⟩ : ByteArray), .bool false, .string (⟨#[]⟩ : ByteArray), .slice none 0 0, .slice none 0 0]) (t := 29) ?hr ?_; (case hd => rfl); (case hg => rfl); (case hr => first | (go_simp; done) | (go_simp; rfl)); intro g hg w3 hbox hb; have HBx := Aside0.mk hbox; have GE := Aside0.mk (show w.heap.size ≤ g by rw [hg]; exact HB.out.size); have HB3 := Aside0.mk (below_then HB.out HB.out.size hb); clear hbox hb hg) | ((with_reducible refine gate_store (t := 29) (p := 4) (v := .tmp 10) rfl ?_); refine wpList_store_mid rfl 29 _ _ rfl _ _ X rfl rfl (HX.out ▸ there17 HBx.out) (sz_pyA HX.out) (H1C.out) ?_))
              have hx0 : (w3.setCells g 0 X.toList).heap[g]? = some (Obj.cells X 29 (0, 0)) := by
                rw [HXP.out]
                exact put17 HBx.out
              have HT0 : T1 X g w (w3.setCells g 0 X.toList) := ⟨hx0, bset GE.out _ _ _ HB3.out⟩
              clear hx0
              obtain ⟨W, eW⟩ : ∃ W, W = w3.setCells g 0 X.toList := ⟨_, rfl⟩
              rw [← eW] at HT0 ⊢
              clear eW HBx HB3 HR3 HB
              have HT := HT0
              clear HT0
              obtain ⟨k0, k1, k2, k4, k5, k6, k8, k9, k10, k12, k13, k14, k15, k16⟩ := HT.cs HXP.out
              go_wp2_with (first | ((with_reducible refine gate_dst (N := 11) rfl ?_); refine wpList_load_row rfl 29 _ rfl _ rfl 29 X (0, 0) _ HT.x Tryz.underlying29 rfl (sz_pyA HX.out) ?_) | (go_at_call 13; (with_reducible refine (C0.out _ HT.b).mono ?_); rintro e w1 ⟨rfl, d1⟩; have HT1 := HT.on d1; clear HT d1; have HT := HT1; clear HT1; clear k0 k1 k2 k4 k5 k6 k8 k9 k10 k12 k13 k14 k15 k16; obtain ⟨k0, k1, k2, k4, k5, k6, k8, k9, k10, k12, k13, k14, k15, k16⟩ := HT.cs HXP.out) | (go_at_call 14; (with_reducible refine (C1.out _ HT.b).mono ?_); rintro e w1 ⟨rfl, d1⟩; have HT1 := HT.on d1; clear HT d1; have HT := HT1; clear HT1; clear k0 k1 k2 k4 k5 k6 k8 k9 k10 k12 k13 k14 k15 k16; obtain ⟨k0, k1, k2, k4, k5, k6, k8, k9, k10, k12, k13, k14, k15, k16⟩ := HT.cs HXP.out) | (go_at_call 14; (with_reducible refine (C2.out _ HV.out).mono ?_); rintro e w1 ⟨rfl, d1⟩; have HT1 := HT.on d1; clear HT d1; have HT := HT1; clear HT1; clear k0 k1 k2 k4 k5 k6 k8 k9 k10 k12 k13 k14 k15 k16; obtain ⟨k0, k1, k2, k4, k5, k6, k8, k9, k10, k12, k13, k14, k15, k16⟩ := HT.cs HXP.out) | (go_at_call 15; (with_reducible refine (C3.out _ HT.b).mono ?_); rintro e w1 ⟨rfl, d1⟩; have HT1 := HT.on d1; clear HT d1; have HT := HT1; clear HT1; clear k0 k1 k2 k4 k5 k6 k8 k9 k10 k12 k13 k14 k15 k16; obtain ⟨k0, k1, k2, k4, k5, k6, k8, k9, k10, k12, k13, k14, k15, k16⟩ := HT.cs HXP.out) | (go_at_call 15; (with_reducible refine (C4.out _ HT.b).mono ?_); rintro e w1 ⟨rfl, d1⟩; have HT1 := HT.on d1; clear HT d1; have HT := HT1; clear HT1; clear k0 k1 k2 k4 k5 k6 k8 k9 k10 k12 k13 k14 k15 k16; obtain ⟨k0, k1, k2, k4, k5, k6, k8, k9, k10, k12, k13, k14, k15, k16⟩ := HT.cs HXP.out) | (go_at_call 15; (with_reducible refine (C5.out _ HV.out).mono ?_); rintro e w1 ⟨rfl, d1⟩; have HT1 := HT.on d1; clear HT d1; have HT := HT1; clear HT1; clear k0 k1 k2 k4 k5 k6 k8 k9 k10 k12 k13 k14 k15 k16; obtain ⟨k0, k1, k2, k4, k5, k6, k8, k9, k10, k12, k13, k14, k15, k16⟩ := HT.cs HXP.out) | ((with_reducible refine gate_dst (N := 32) rfl ?_); (try (refine gate_guard (by rfl) ?_; dsimp only)); refine Kd.event_run rfl (run_bs4 rfl rfl rfl rfl rfl (bs_nums P _)) ?_; have HV := Aside0.mk HT.b; have HT1 := HT.on (below_alloc (Below.refl _ _) (Obj.cells #[.bool P.e0, .string P.e1, .bool P.a2, .string P.a3, .bool P.b2, .string P.b3, .bool P.d2, .string P.d3] 23)); clear HT; have HT := HT1; clear HT1) | ((with_reducible refine gate_dst (N := 58) rfl ?_); (try (refine gate_guard (by rfl) ?_; dsimp only)); refine Kd.event_run rfl (run_bs3' rfl rfl rfl rfl (bs_lets P _)) ?_; have HV := Aside0.mk HT.b; have HT1 := HT.on (below_alloc (Below.refl _ _) (Obj.cells #[.string P.a1, .string P.b1, .string P.d1] 9)); clear HT; have HT := HT1; clear HT1))
              go_ret
              exact ⟨by rw [RN.out j 3 JL.out (by decide) TT.out]; rfl, HT.b⟩
            | true =>
              rw [h3] at C
              cases h4 : t j 4 with
              | false => as_aux_lemma =>
                rw [h4] at C
                have TT := Aside0.mk h4
                clear h0 h1 h2 h3 h4
                have C0 := Aside0.mk C.k
                have C1 := Aside0.mk C.r
                have C2 := Aside0.mk C.n
                have C3 := Aside0.mk C.l
                have C4 := Aside0.mk C.g
                rw [← hxp] at C0
                clear C hxp HROW HC
                go_upto_region 4 with (first | ((with_reducible refine gate_dst (N := 10) rfl ?_); refine wpList_load_mid rfl 29 _ rfl _ _ rfl X.toList _ ?hc Tryz.underlying29 rfl (sz_py.trans (congrArg some (by rw [Array.length_toList]; exact HX.out.symm))) ?_; (case hc => exact HR3.out); dsimp only) | ((with_reducible refine gate_dst (N := 4) rfl ?_); refine box_event ?hg (N := 4) ?hd (cs := #[.bool false, .string (⟨#[]⟩ : ByteArray), .slice none 0 0, .bool false, .string (⟨#[]⟩ : ByteArray), .bool false, .string (⟨#[]⟩ : ByteArray), .bool false, .string (⟨#[]⟩ : ByteArray), .bool false, .string (⟨#[]⟩ : ByteArray), .bool false, .string (⟨#[]⟩ : ByteArray), .bool false, .string (⟨#[]⟩ : ByteArray), .slice none 0 0, .slice none 0 0]) (t := 29) ?hr ?_; (case hd => rfl); (case hg => rfl); (case hr => first | (go_simp; done) | (go_simp; rfl)); intro g hg w3 hbox hb; have HBx := Aside0.mk hbox; have GE := Aside0.mk (show w.heap.size ≤ g by rw [hg]; exact HB.out.size); have HB3 := Aside0.mk (below_then HB.out HB.out.size hb); clear hbox hb hg) | ((with_reducible refine gate_store (t := 29) (p := 4) (v := .tmp 10) rfl ?_); refine wpList_store_mid rfl 29 _ _ rfl _ _ X rfl rfl (HX.out ▸ there17 HBx.out) (sz_pyA HX.out) (H1C.out) ?_))
                have hx0 : (w3.setCells g 0 X.toList).heap[g]? = some (Obj.cells X 29 (0, 0)) := by
                  rw [HXP.out]
                  exact put17 HBx.out
                have HT0 : T1 X g w (w3.setCells g 0 X.toList) := ⟨hx0, bset GE.out _ _ _ HB3.out⟩
                clear hx0
                obtain ⟨W, eW⟩ : ∃ W, W = w3.setCells g 0 X.toList := ⟨_, rfl⟩
                rw [← eW] at HT0 ⊢
                clear eW HBx HB3 HR3 HB
                have HT := HT0
                clear HT0
                obtain ⟨k0, k1, k2, k4, k5, k6, k8, k9, k10, k12, k13, k14, k15, k16⟩ := HT.cs HXP.out
                go_wp2_with (first | ((with_reducible refine gate_dst (N := 11) rfl ?_); refine wpList_load_row rfl 29 _ rfl _ rfl 29 X (0, 0) _ HT.x Tryz.underlying29 rfl (sz_pyA HX.out) ?_) | (go_at_call 13; (with_reducible refine (C0.out _ HT.b).mono ?_); rintro e w1 ⟨rfl, d1⟩; have HT1 := HT.on d1; clear HT d1; have HT := HT1; clear HT1; clear k0 k1 k2 k4 k5 k6 k8 k9 k10 k12 k13 k14 k15 k16; obtain ⟨k0, k1, k2, k4, k5, k6, k8, k9, k10, k12, k13, k14, k15, k16⟩ := HT.cs HXP.out) | (go_at_call 14; (with_reducible refine (C1.out _ HT.b).mono ?_); rintro e w1 ⟨rfl, d1⟩; have HT1 := HT.on d1; clear HT d1; have HT := HT1; clear HT1; clear k0 k1 k2 k4 k5 k6 k8 k9 k10 k12 k13 k14 k15 k16; obtain ⟨k0, k1, k2, k4, k5, k6, k8, k9, k10, k12, k13, k14, k15, k16⟩ := HT.cs HXP.out) | (go_at_call 14; (with_reducible refine (C2.out _ HV.out).mono ?_); rintro e w1 ⟨rfl, d1⟩; have HT1 := HT.on d1; clear HT d1; have HT := HT1; clear HT1; clear k0 k1 k2 k4 k5 k6 k8 k9 k10 k12 k13 k14 k15 k16; obtain ⟨k0, k1, k2, k4, k5, k6, k8, k9, k10, k12, k13, k14, k15, k16⟩ := HT.cs HXP.out) | (go_at_call 15; (with_reducible refine (C3.out _ HT.b).mono ?_); rintro e w1 ⟨rfl, d1⟩; have HT1 := HT.on d1; clear HT d1; have HT := HT1; clear HT1; clear k0 k1 k2 k4 k5 k6 k8 k9 k10 k12 k13 k14 k15 k16; obtain ⟨k0, k1, k2, k4, k5, k6, k8, k9, k10, k12, k13, k14, k15, k16⟩ := HT.cs HXP.out) | (go_at_call 15; (with_reducible refine (C4.out _ HT.b).mono ?_); rintro e w1 ⟨rfl, d1⟩; have HT1 := HT.on d1; clear HT d1; have HT := HT1; clear HT1; clear k0 k1 k2 k4 k5 k6 k8 k9 k10 k12 k13 k14 k15 k16; obtain ⟨k0, k1, k2, k4, k5, k6, k8, k9, k10, k12, k13, k14, k15, k16⟩ := HT.cs HXP.out) | (go_at_call 15; (with_reducible refine (C5.out _ HV.out).mono ?_); rintro e w1 ⟨rfl, d1⟩; have HT1 := HT.on d1; clear HT d1; have HT := HT1; clear HT1; clear k0 k1 k2 k4 k5 k6 k8 k9 k10 k12 k13 k14 k15 k16; obtain ⟨k0, k1, k2, k4, k5, k6, k8, k9, k10, k12, k13, k14, k15, k16⟩ := HT.cs HXP.out) | ((with_reducible refine gate_dst (N := 32) rfl ?_); (try (refine gate_guard (by rfl) ?_; dsimp only)); refine Kd.event_run rfl (run_bs4 rfl rfl rfl rfl rfl (bs_nums P _)) ?_; have HV := Aside0.mk HT.b; have HT1 := HT.on (below_alloc (Below.refl _ _) (Obj.cells #[.bool P.e0, .string P.e1, .bool P.a2, .string P.a3, .bool P.b2, .string P.b3, .bool P.d2, .string P.d3] 23)); clear HT; have HT := HT1; clear HT1) | ((with_reducible refine gate_dst (N := 58) rfl ?_); (try (refine gate_guard (by rfl) ?_; dsimp only)); refine Kd.event_run rfl (run_bs3' rfl rfl rfl rfl (bs_lets P _)) ?_; have HV := Aside0.mk HT.b; have HT1 := HT.on (below_alloc (Below.refl _ _) (Obj.cells #[.string P.a1, .string P.b1, .string P.d1] 9)); clear HT; have HT := HT1; clear HT1))
                go_ret
                exact ⟨by rw [RN.out j 4 JL.out (by decide) TT.out]; rfl, HT.b⟩
              | true =>
                rw [h4] at C
                cases h5 : t j 5 with
                | false => as_aux_lemma =>
                  rw [h5] at C
                  have TT := Aside0.mk h5
                  clear h0 h1 h2 h3 h4 h5
                  have C0 := Aside0.mk C.k
                  have C1 := Aside0.mk C.r
                  have C2 := Aside0.mk C.n
                  have C3 := Aside0.mk C.l
                  have C4 := Aside0.mk C.g
                  have C5 := Aside0.mk C.t
                  rw [← hxp] at C0
                  clear C hxp HROW HC
                  go_upto_region 4 with (first | ((with_reducible refine gate_dst (N := 10) rfl ?_); refine wpList_load_mid rfl 29 _ rfl _ _ rfl X.toList _ ?hc Tryz.underlying29 rfl (sz_py.trans (congrArg some (by rw [Array.length_toList]; exact HX.out.symm))) ?_; (case hc => exact HR3.out); dsimp only) | ((with_reducible refine gate_dst (N := 4) rfl ?_); refine box_event ?hg (N := 4) ?hd (cs := #[.bool false, .string (⟨#[]⟩ : ByteArray), .slice none 0 0, .bool false, .string (⟨#[]⟩ : ByteArray), .bool false, .string (⟨#[]⟩ : ByteArray), .bool false, .string (⟨#[]⟩ : ByteArray), .bool false, .string (⟨#[]⟩ : ByteArray), .bool false, .string (⟨#[]⟩ : ByteArray), .bool false, .string (⟨#[]⟩ : ByteArray), .slice none 0 0, .slice none 0 0]) (t := 29) ?hr ?_; (case hd => rfl); (case hg => rfl); (case hr => first | (go_simp; done) | (go_simp; rfl)); intro g hg w3 hbox hb; have HBx := Aside0.mk hbox; have GE := Aside0.mk (show w.heap.size ≤ g by rw [hg]; exact HB.out.size); have HB3 := Aside0.mk (below_then HB.out HB.out.size hb); clear hbox hb hg) | ((with_reducible refine gate_store (t := 29) (p := 4) (v := .tmp 10) rfl ?_); refine wpList_store_mid rfl 29 _ _ rfl _ _ X rfl rfl (HX.out ▸ there17 HBx.out) (sz_pyA HX.out) (H1C.out) ?_))
                  have hx0 : (w3.setCells g 0 X.toList).heap[g]? = some (Obj.cells X 29 (0, 0)) := by
                    rw [HXP.out]
                    exact put17 HBx.out
                  have HT0 : T1 X g w (w3.setCells g 0 X.toList) := ⟨hx0, bset GE.out _ _ _ HB3.out⟩
                  clear hx0
                  obtain ⟨W, eW⟩ : ∃ W, W = w3.setCells g 0 X.toList := ⟨_, rfl⟩
                  rw [← eW] at HT0 ⊢
                  clear eW HBx HB3 HR3 HB
                  have HT := HT0
                  clear HT0
                  obtain ⟨k0, k1, k2, k4, k5, k6, k8, k9, k10, k12, k13, k14, k15, k16⟩ := HT.cs HXP.out
                  go_wp2_with (first | ((with_reducible refine gate_dst (N := 11) rfl ?_); refine wpList_load_row rfl 29 _ rfl _ rfl 29 X (0, 0) _ HT.x Tryz.underlying29 rfl (sz_pyA HX.out) ?_) | (go_at_call 13; (with_reducible refine (C0.out _ HT.b).mono ?_); rintro e w1 ⟨rfl, d1⟩; have HT1 := HT.on d1; clear HT d1; have HT := HT1; clear HT1; clear k0 k1 k2 k4 k5 k6 k8 k9 k10 k12 k13 k14 k15 k16; obtain ⟨k0, k1, k2, k4, k5, k6, k8, k9, k10, k12, k13, k14, k15, k16⟩ := HT.cs HXP.out) | (go_at_call 14; (with_reducible refine (C1.out _ HT.b).mono ?_); rintro e w1 ⟨rfl, d1⟩; have HT1 := HT.on d1; clear HT d1; have HT := HT1; clear HT1; clear k0 k1 k2 k4 k5 k6 k8 k9 k10 k12 k13 k14 k15 k16; obtain ⟨k0, k1, k2, k4, k5, k6, k8, k9, k10, k12, k13, k14, k15, k16⟩ := HT.cs HXP.out) | (go_at_call 14; (with_reducible refine (C2.out _ HV.out).mono ?_); rintro e w1 ⟨rfl, d1⟩; have HT1 := HT.on d1; clear HT d1; have HT := HT1; clear HT1; clear k0 k1 k2 k4 k5 k6 k8 k9 k10 k12 k13 k14 k15 k16; obtain ⟨k0, k1, k2, k4, k5, k6, k8, k9, k10, k12, k13, k14, k15, k16⟩ := HT.cs HXP.out) | (go_at_call 15; (with_reducible refine (C3.out _ HT.b).mono ?_); rintro e w1 ⟨rfl, d1⟩; have HT1 := HT.on d1; clear HT d1; have HT := HT1; clear HT1; clear k0 k1 k2 k4 k5 k6 k8 k9 k10 k12 k13 k14 k15 k16; obtain ⟨k0, k1, k2, k4, k5, k6, k8, k9, k10, k12, k13, k14, k15, k16⟩ := HT.cs HXP.out) | (go_at_call 15; (with_reducible refine (C4.out _ HT.b).mono ?_); rintro e w1 ⟨rfl, d1⟩; have HT1 := HT.on d1; clear HT d1; have HT := HT1; clear HT1; clear k0 k1 k2 k4 k5 k6 k8 k9 k10 k12 k13 k14 k15 k16; obtain ⟨k0, k1, k2, k4, k5, k6, k8, k9, k10, k12, k13, k14, k15, k16⟩ := HT.cs HXP.out) | (go_at_call 15; (with_reducible refine (C5.out _ HV.out).mono ?_); rintro e w1 ⟨rfl, d1⟩; have HT1 := HT.on d1; clear HT d1; have HT := HT1; clear HT1; clear k0 k1 k2 k4 k5 k6 k8 k9 k10 k12 k13 k14 k15 k16; obtain ⟨k0, k1, k2, k4, k5, k6, k8, k9, k10, k12, k13, k14, k15, k16⟩ := HT.cs HXP.out) | ((with_reducible refine gate_dst (N := 32) rfl ?_); (try (refine gate_guard (by rfl) ?_; dsimp only)); refine Kd.event_run rfl (run_bs4 rfl rfl rfl rfl rfl (bs_nums P _)) ?_; have HV := Aside0.mk HT.b; have HT1 := HT.on (below_alloc (Below.refl _ _) (Obj.cells #[.bool P.e0, .string P.e1, .bool P.a2, .string P.a3, .bool P.b2, .string P.b3, .bool P.d2, .string P.d3] 23)); clear HT; have HT := HT1; clear HT1) | ((with_reducible refine gate_dst (N := 58) rfl ?_); (try (refine gate_guard (by rfl) ?_; dsimp only)); refine Kd.event_run rfl (run_bs3' rfl rfl rfl rfl (bs_lets P _)) ?_; have HV := Aside0.mk HT.b; have HT1 := HT.on (below_alloc (Below.refl _ _) (Obj.cells #[.string P.a1, .string P.b1, .string P.d1] 9)); clear HT; have HT := HT1; clear HT1))
                  go_ret
                  exact ⟨by rw [RN.out j 5 JL.out (by decide) TT.out]; rfl, HT.b⟩
                | true =>
                  rw [h5] at C
                  as_aux_lemma =>
                    have TT := Aside0.mk (show ∀ j' i, j' < j + 1 → i < 6 → t j' i = true from fun j' i h1' h2' => tt6 HK.out h0 h1 h2 h3 h4 h5 j' i h1' h2')
                    have C0 := Aside0.mk C.k
                    have C1 := Aside0.mk C.r
                    have C2 := Aside0.mk C.n
                    have C3 := Aside0.mk C.l
                    have C4 := Aside0.mk C.g
                    have C5 := Aside0.mk C.t
                    rw [← hxp] at C0
                    clear C hxp HROW HC
                    go_upto_region 4 with (first | ((with_reducible refine gate_dst (N := 10) rfl ?_); refine wpList_load_mid rfl 29 _ rfl _ _ rfl X.toList _ ?hc Tryz.underlying29 rfl (sz_py.trans (congrArg some (by rw [Array.length_toList]; exact HX.out.symm))) ?_; (case hc => exact HR3.out); dsimp only) | ((with_reducible refine gate_dst (N := 4) rfl ?_); refine box_event ?hg (N := 4) ?hd (cs := #[.bool false, .string (⟨#[]⟩ : ByteArray), .slice none 0 0, .bool false, .string (⟨#[]⟩ : ByteArray), .bool false, .string (⟨#[]⟩ : ByteArray), .bool false, .string (⟨#[]⟩ : ByteArray), .bool false, .string (⟨#[]⟩ : ByteArray), .bool false, .string (⟨#[]⟩ : ByteArray), .bool false, .string (⟨#[]⟩ : ByteArray), .slice none 0 0, .slice none 0 0]) (t := 29) ?hr ?_; (case hd => rfl); (case hg => rfl); (case hr => first | (go_simp; done) | (go_simp; rfl)); intro g hg w3 hbox hb; have HBx := Aside0.mk hbox; have GE := Aside0.mk (show w.heap.size ≤ g by rw [hg]; exact HB.out.size); have HB3 := Aside0.mk (below_then HB.out HB.out.size hb); clear hbox hb hg) | ((with_reducible refine gate_store (t := 29) (p := 4) (v := .tmp 10) rfl ?_); refine wpList_store_mid rfl 29 _ _ rfl _ _ X rfl rfl (HX.out ▸ there17 HBx.out) (sz_pyA HX.out) (H1C.out) ?_))
                    have hx0 : (w3.setCells g 0 X.toList).heap[g]? = some (Obj.cells X 29 (0, 0)) := by
                      rw [HXP.out]
                      exact put17 HBx.out
                    have HT0 : T1 X g w (w3.setCells g 0 X.toList) := ⟨hx0, bset GE.out _ _ _ HB3.out⟩
                    clear hx0
                    obtain ⟨W, eW⟩ : ∃ W, W = w3.setCells g 0 X.toList := ⟨_, rfl⟩
                    rw [← eW] at HT0 ⊢
                    clear eW HBx HB3 HR3 HB
                    have HT := HT0
                    clear HT0
                    obtain ⟨k0, k1, k2, k4, k5, k6, k8, k9, k10, k12, k13, k14, k15, k16⟩ := HT.cs HXP.out
                    go_wp2_with (first | ((with_reducible refine gate_dst (N := 11) rfl ?_); refine wpList_load_row rfl 29 _ rfl _ rfl 29 X (0, 0) _ HT.x Tryz.underlying29 rfl (sz_pyA HX.out) ?_) | (go_at_call 13; (with_reducible refine (C0.out _ HT.b).mono ?_); rintro e w1 ⟨rfl, d1⟩; have HT1 := HT.on d1; clear HT d1; have HT := HT1; clear HT1; clear k0 k1 k2 k4 k5 k6 k8 k9 k10 k12 k13 k14 k15 k16; obtain ⟨k0, k1, k2, k4, k5, k6, k8, k9, k10, k12, k13, k14, k15, k16⟩ := HT.cs HXP.out) | (go_at_call 14; (with_reducible refine (C1.out _ HT.b).mono ?_); rintro e w1 ⟨rfl, d1⟩; have HT1 := HT.on d1; clear HT d1; have HT := HT1; clear HT1; clear k0 k1 k2 k4 k5 k6 k8 k9 k10 k12 k13 k14 k15 k16; obtain ⟨k0, k1, k2, k4, k5, k6, k8, k9, k10, k12, k13, k14, k15, k16⟩ := HT.cs HXP.out) | (go_at_call 14; (with_reducible refine (C2.out _ HV.out).mono ?_); rintro e w1 ⟨rfl, d1⟩; have HT1 := HT.on d1; clear HT d1; have HT := HT1; clear HT1; clear k0 k1 k2 k4 k5 k6 k8 k9 k10 k12 k13 k14 k15 k16; obtain ⟨k0, k1, k2, k4, k5, k6, k8, k9, k10, k12, k13, k14, k15, k16⟩ := HT.cs HXP.out) | (go_at_call 15; (with_reducible refine (C3.out _ HT.b).mono ?_); rintro e w1 ⟨rfl, d1⟩; have HT1 := HT.on d1; clear HT d1; have HT := HT1; clear HT1; clear k0 k1 k2 k4 k5 k6 k8 k9 k10 k12 k13 k14 k15 k16; obtain ⟨k0, k1, k2, k4, k5, k6, k8, k9, k10, k12, k13, k14, k15, k16⟩ := HT.cs HXP.out) | (go_at_call 15; (with_reducible refine (C4.out _ HT.b).mono ?_); rintro e w1 ⟨rfl, d1⟩; have HT1 := HT.on d1; clear HT d1; have HT := HT1; clear HT1; clear k0 k1 k2 k4 k5 k6 k8 k9 k10 k12 k13 k14 k15 k16; obtain ⟨k0, k1, k2, k4, k5, k6, k8, k9, k10, k12, k13, k14, k15, k16⟩ := HT.cs HXP.out) | (go_at_call 15; (with_reducible refine (C5.out _ HV.out).mono ?_); rintro e w1 ⟨rfl, d1⟩; have HT1 := HT.on d1; clear HT d1; have HT := HT1; clear HT1; clear k0 k1 k2 k4 k5 k6 k8 k9 k10 k12 k13 k14 k15 k16; obtain ⟨k0, k1, k2, k4, k5, k6, k8, k9, k10, k12, k13, k14, k15, k16⟩ := HT.cs HXP.out) | ((with_reducible refine gate_dst (N := 32) rfl ?_); (try (refine gate_guard (by rfl) ?_; dsimp only)); refine Kd.event_run rfl (run_bs4 rfl rfl rfl rfl rfl (bs_nums P _)) ?_; have HV := Aside0.mk HT.b; have HT1 := HT.on (below_alloc (Below.refl _ _) (Obj.cells #[.bool P.e0, .string P.e1, .bool P.a2, .string P.a3, .bool P.b2, .string P.b3, .bool P.d2, .string P.d3] 23)); clear HT; have HT := HT1; clear HT1) | ((with_reducible refine gate_dst (N := 58) rfl ?_); (try (refine gate_guard (by rfl) ?_; dsimp only)); refine Kd.event_run rfl (run_bs3' rfl rfl rfl rfl (bs_lets P _)) ?_; have HV := Aside0.mk HT.b; have HT1 := HT.on (below_alloc (Below.refl _ _) (Obj.cells #[.string P.a1, .string P.b1, .string P.d1] 9)); clear HT; have HT := HT1; clear HT1))
                    go_roundw
                    case rel => exact ⟨j + 1, rfl, JL.out, TT.out, HT.b⟩
                    case measure =>
                      exact meas3 JL.out
    · have ej : j = 3 := by omega
      subst ej
      have hrr : r = true := RP.out fun j i hj hi => hk j i hj hi
      subst hrr
      clear hk hlt hj
      go_wp2_with fail
      go_ret
      exact ⟨rfl, HB.out⟩
end Go.Proofs.YtfmndbmlpfgbnaaGreatDoor.Giv
/- Plain numbers of the statements as the program's (impl.bigs). -/
namespace Go.Proofs.YtfmndbmlpfgbnaaGreatDoor.Giv
open Go.RowKit Go.Proofs.YtfmndbmlpfgbnaaGreatDoorW.PrintWords Go.Proofs.YtfmndbmlpfgbnaaGreatDoorW.PrintLast Go.Proofs.YtfmndbmlpfgbnaaGreatDoor.Pk Go.Proofs.YtfmndbmlpfgbnaaGreatDoor.Ord Go.Proofs.YtfmndbmlpfgbnaaGreatDoor.QN
set_option linter.unusedVariables false
set_option linter.unusedSimpArgs false

/-- Plain numbers of the statements as the program's. -/
def zi (l : List S23) : List S56 := l.map fun x => ⟨x.f0, x.f1⟩
theorem zi_len (l : List S23) : (zi l).length = l.length := by simp [zi]
theorem bigs_loop (l : List S23) (hl : l.length ≤ 100000) (d : Nat) : ∀ i : Nat, i + d = l.length → Ev (fun k => impl_bigs.l0 k (zi (l.take i)) l (l.length : Int) (i : Int)) (zi l) := by
  induction d with
  | zero =>
    intro i hi
    refine Ev.step (fun k => by rw [impl_bigs.l0]) ?_
    rw [List.take_of_length_le (by omega)]
    refine ev_neg (by omega) ?_
    exact Ev.now _
  | succ d ih =>
    intro i hi
    have hlt : i < l.length := by omega
    have w := wr i (by omega)
    have e : rd_T23 l (i : Int) = l[i]'hlt := by
      unfold rd_T23
      rw [Int.toNat_natCast, List.getD_eq_getElem?_getD, List.getElem?_eq_getElem hlt]
      rfl
    have s : zi (l.take i) ++ [(⟨(l[i]'hlt).f0, (l[i]'hlt).f1⟩ : S56)] = zi (l.take (i + 1)) := by
      unfold zi
      rw [List.take_succ_eq_append_getElem hlt, List.map_append]
      rfl
    have nx := ih (i + 1) (by omega)
    refine Ev.step (fun k => by rw [impl_bigs.l0, w, e, s]) ?_
    refine ev_pos (by omega) (ev_pos (by omega) (ev_pos (by omega) (ev_pos ?_ nx)))
    rw [zi_len, List.length_take]
    omega
theorem bigs_ev (l : List S23) (hl : l.length ≤ 100000) : Ev (fun k => impl_bigs.f k l) (zi l) := by
  unfold impl_bigs.f
  have := bigs_loop l hl _ 0 (Nat.zero_add _)
  exact this
/-- Lists that are small enough to be told. -/
def small (l : List S23) : Bool := decide (l.length ≤ 100000) && l.all (fun x => decide (x.f1.size ≤ 100000))
end Go.Proofs.YtfmndbmlpfgbnaaGreatDoor.Giv
/- Versions of PyPI as the package compares them are in one order. Plain Lean, over the comparators of the contracts. -/
namespace Go.Proofs.YtfmndbmlpfgbnaaGreatDoor.Giv
open Go.RowKit Go.Proofs.YtfmndbmlpfgbnaaGreatDoorW.PrintWords Go.Proofs.YtfmndbmlpfgbnaaGreatDoorW.PrintLast Go.Proofs.YtfmndbmlpfgbnaaGreatDoor.Pk Go.Proofs.YtfmndbmlpfgbnaaGreatDoor.Ord
set_option linter.unusedVariables false

theorem thn_cmp {α : Type} {c d : α → α → Int} (hc : Cmp c) (hd : Cmp d) : Cmp (fun a b => thn (c a b) (d a b)) := hc.then_ hd
theorem cmp_of {α : Type} {c d : α → α → Int} (h : Cmp c) (e : ∀ a b, d a b = c a b) : Cmp d := by
  have : d = c := funext fun a => funext fun b => e a b
  rw [this]
  exact h
def emL (l : List ByteArray) : Int := if l = [] then 1 else 0
theorem legC_cmp : Cmp legC := by
  refine cmp_of (thn_cmp (cI_cmp.key emL) (cS_cmp.key (fun l : List ByteArray => l.flatMap (·.toList)))) ?_
  intro a b
  unfold legC thn emL
  by_cases ha : a = []
  · by_cases hb : b = []
    · subst ha hb
      simp [cI, cS, lexL]
    · simp [ha, hb, cI]
  · by_cases hb : b = []
    · simp [ha, hb, cI]
    · simp [ha, hb, cI]
def sO (z : Option Int) : Int := if z.isSome then 1 else 0
def vO (z : Option Int) : Int := z.getD 0
theorem poC_cmp : Cmp poC := by
  refine cmp_of (thn_cmp (cI_cmp.key sO) (cI_cmp.key vO)) ?_
  intro a b
  cases a <;> cases b <;> simp [poC, thn, sO, vO, cI]
  all_goals (repeat' split) <;> first | rfl | omega
theorem deC_cmp : Cmp deC := by
  refine cmp_of (thn_cmp (cI_cmp.key (fun z => - sO z)) (cI_cmp.key vO)) ?_
  intro a b
  cases a <;> cases b <;> simp [deC, thn, sO, vO, cI]
  all_goals (repeat' split) <;> first | rfl | omega
/-- A pre-release's place. -/
def plO (z0 z1 z2 : Option Int) : Int := if trk z0 z1 z2 then -1 else if z0.isSome then 0 else 1
structure PreK where
  s : ByteArray
  z0 : Option Int
  z1 : Option Int
  z2 : Option Int
def PreK.pl (k : PreK) : Int := plO k.z0 k.z1 k.z2
def PreK.b (k : PreK) : Int := if k.z0.isSome then bt k.s 0 else 0
theorem trk_some {z : Int} {z1 z2 : Option Int} : trk (some z) z1 z2 = false := rfl
theorem preC_cmp : Cmp (fun a b : PreK => preC a.s a.z0 a.z1 a.z2 b.s b.z0 b.z1 b.z2) := by
  refine cmp_of (thn_cmp (cI_cmp.key PreK.pl) (thn_cmp (cI_cmp.key PreK.b) (cI_cmp.key (fun k : PreK => vO k.z0)))) ?_
  intro a b
  obtain ⟨s, z0, z1, z2⟩ := a
  obtain ⟨t, y0, y1, y2⟩ := b
  show preC s z0 z1 z2 t y0 y1 y2 = thn (cI (plO z0 z1 z2) (plO y0 y1 y2)) (thn (cI (if z0.isSome then bt s 0 else 0) (if y0.isSome then bt t 0 else 0)) (cI (vO z0) (vO y0)))
  unfold preC pre2 plO
  cases z0 with
  | some x =>
    rw [trk_some]
    cases y0 with
    | some y =>
      rw [trk_some]
      simp only [Bool.false_eq_true, if_false, Option.isSome_some, if_true]
      unfold thn cI vO
      simp only [Int.lt_irrefl, if_false, Option.getD_some]
      rcases Int.lt_trichotomy (bt s 0) (bt t 0) with h | h | h
      · have h2 : ¬ bt t 0 < bt s 0 := by omega
        simp [h, h2]
      · rw [h]
        simp
      · have h2 : ¬ bt s 0 < bt t 0 := by omega
        simp [h, h2]
    | none =>
      cases hb : trk none y1 y2 <;> simp [thn, cI]
  | none =>
    cases y0 with
    | some y =>
      rw [trk_some]
      cases ha : trk none z1 z2 <;> simp [thn, cI]
    | none =>
      cases ha : trk none z1 z2 <;> cases hb : trk none y1 y2 <;> simp [thn, cI, vO]
theorem pvCmp_cmp : Cmp pvCmp :=
  thn_cmp (legC_cmp.key (fun v : PvC => v.leg)) (thn_cmp (cI_cmp.key (fun v : PvC => v.ep)) (thn_cmp ((padL_cmp cI_cmp 0).key (fun v : PvC => v.rel)) (thn_cmp (preC_cmp.key (fun v : PvC => (⟨v.pl, v.z0, v.z1, v.z2⟩ : PreK))) (thn_cmp (poC_cmp.key (fun v : PvC => v.z1)) (thn_cmp (deC_cmp.key (fun v : PvC => v.z2)) ((by
    have e : pyC = Seg.segC := funext fun x => funext fun y => pyC_seg x y
    rw [e]
    exact lexL_cmp Seg.segC_cmp : Cmp (lexL pyC)).key (fun v : PvC => v.loc)))))))
end Go.Proofs.YtfmndbmlpfgbnaaGreatDoor.Giv
