/- Contracts by hand: two versions of Maven compared, given by their tokens: equal ones, and those whose first tokens that differ are qualifiers with one prefix. -/
import Derived.Test.YtkecmlpihnjjgaaDoorLGivMw
namespace Go.Proofs.YtkecmlpihnjjgaaDoor.Giv
open Go.RowKit Go.Proofs.YtkecmlpihnjjgaaDoorW.PrintWords Go.Proofs.YtkecmlpihnjjgaaDoorW.PrintLast Go.Proofs.YtkecmlpihnjjgaaDoor.Pk Go.Proofs.YtkecmlpihnjjgaaDoor.Ord Go.Proofs.YtkecmlpihnjjgaaDoor.QL
set_option linter.unusedVariables false
set_option linter.unusedSimpArgs false

theorem run_nil_neq {P : Program} {ti : TypeId} {ms : Array (String × TypeId)} (hi : P.underlying ti = some (.interface ms)) (w : World) : (binOp .neq ti .nilIface .nilIface).run P w = .ok (.bool false) w := by
  have h : ∀ d : Nat, (Op.equalIn (d + 1) ti .nilIface .nilIface).run P w = .ok true w := fun d => by simp [Op.equalIn, run_underlying hi]
  simp only [binOp]
  simp [show Op.equal ti .nilIface .nilIface = Op.equalIn (9999 + 1) ti .nilIface .nilIface from rfl, h]
/-- Two lists of tokens that are equal. -/
def MSame (l m : List S60) : Prop := l.length = m.length ∧ ∀ (i : Nat) (x y : S60), l[i]? = some x → m[i]? = some y → tkE x y = true
/-- Two lists of tokens of one length, and the first ones that differ, two qualifiers with one prefix. -/
structure MDiff (l m : List S60) (q : Nat) (x y : S60) : Prop where
  len : l.length = m.length
  most : l.length ≤ 100000
  hx : l[q]? = some x
  hy : m[q]? = some y
  hq : ∀ (i : Nat) (x y : S60), i < q → l[i]? = some x → m[i]? = some y → tkE x y = true
  hne : tkE x y = false
  hp : y.f0 = x.f0
  sx : x.f1.size ≤ 40000
  sy : y.f1.size ≤ 40000
  px : Num.parse x.f1.toList = none
  py : Num.parse y.f1.toList = none
theorem meq_true (A B : Option Addr) (c d n : Nat) (l m : List S60) (w : World) (e0 : n = l.length) (hA : Kd.C k60 w A l.length l) (hB : Kd.C k60 w B m.length m) (hl : l.length ≤ 100000) (h : MSame l m) :
    Calls Tryd.prog 34 #[.agg #[.slice A n c], .agg #[.slice B n d]] w fun e w' => e = .returned (.bool true) ∧ Below w.heap.size w w' := by
  refine (meq_calls A B c d l m n n e0 (e0.trans h.1) w hA hB hl).mono ?_
  rintro e w' ⟨r, rfl, hr, hb⟩
  exact ⟨by rw [show r = true from hr.2 h], hb⟩
theorem meq_false (A B : Option Addr) (c d n : Nat) (l m : List S60) (w : World) (e0 : n = l.length) (hA : Kd.C k60 w A l.length l) (hB : Kd.C k60 w B m.length m) {q : Nat} {x y : S60} (h : MDiff l m q x y) :
    Calls Tryd.prog 34 #[.agg #[.slice A n c], .agg #[.slice B n d]] w fun e w' => e = .returned (.bool false) ∧ Below w.heap.size w w' := by
  refine (meq_calls A B c d l m n n e0 (e0.trans h.len) w hA hB h.most).mono ?_
  rintro e w' ⟨r, rfl, hr, hb⟩
  cases r with
  | false => exact ⟨rfl, hb⟩
  | true =>
    have := (hr.1 rfl).2 q x y h.hx h.hy
    rw [h.hne] at this
    cases this
theorem w2 (X Y : Value) (t : Nat) (w : World) : ((w.alloc (Obj.cells #[X] t)).alloc (Obj.cells #[Y] t)).cell? ⟨w.heap.size, 0, none⟩ = some X ∧ ((w.alloc (Obj.cells #[X] t)).alloc (Obj.cells #[Y] t)).cell? ⟨w.heap.size + 1, 0, none⟩ = some Y ∧ Below w.heap.size w ((w.alloc (Obj.cells #[X] t)).alloc (Obj.cells #[Y] t)) := by
  refine ⟨(blk_cell (blk_alloc (blk_new w (Obj.cells #[X] t)) (Obj.cells #[Y] t)) 0).trans rfl, ?_, below_alloc (below_alloc (Below.refl _ _) _) _⟩
  have k : ((w.alloc (Obj.cells #[X] t)).alloc (Obj.cells #[Y] t)).heap[w.heap.size + 1]? = some (Obj.cells #[Y] t) := by
    have := blk_new (w.alloc (Obj.cells #[X] t)) (Obj.cells #[Y] t)
    simpa using this
  exact (blk_cell k 0).trans rfl
set_option maxRecDepth 100000 in
set_option maxHeartbeats 2000000 in
theorem mcmp_same (A B : Option Addr) (c d n : Nat) (l m : List S60) (w : World) (e0 : n = l.length) (hA : Kd.C k60 w A l.length l) (hB : Kd.C k60 w B m.length m) (hl : l.length ≤ 100000) (h : MSame l m) :
    Calls Tryd.prog 23 #[.agg #[.slice A n c], .agg #[.slice B n d]] w fun e w' => e = .returned (.tuple #[.int .i64 0, .nilIface]) ∧ Below w.heap.size w w' := by
  obtain ⟨q0, q1, b2⟩ := w2 (.slice A n c) (.slice B n d) 43 w
  have c1 := meq_true A B c d n l m _ e0 (Kd.C_below hA b2) (Kd.C_below hB b2) hl h
  have B2 := Aside0.mk b2
  clear e0 hA hB hl h b2
  go_enter Tryd.func23, Tryd.ntmps23
  go_wp2_with (first | (go_at_call 34; (with_reducible refine c1.mono ?_); rintro e w1 ⟨rfl, d1⟩; have D1 := Aside0.mk (below_then B2.out B2.out.size d1); clear d1))
  go_ret2
  exact ⟨rfl, D1.out⟩
/-- The sign that stands for 'less' and 'greater'. -/
def sgL (b : Bool) : Int := if b = true then -1 else 1
set_option maxRecDepth 100000 in
set_option maxHeartbeats 2000000 in
theorem mcmp_diff (A B : Option Addr) (c d n : Nat) (l m : List S60) (w : World) (e0 : n = l.length) (hA : Kd.C k60 w A l.length l) (hB : Kd.C k60 w B m.length m) {q : Nat} {x y : S60} (h : MDiff l m q x y) (hL : LaidK w) :
    Calls Tryd.prog 23 #[.agg #[.slice A n c], .agg #[.slice B n d]] w fun e w' => e = .returned (.tuple #[.int .i64 (sgL (tlt x.f1 y.f1)), .nilIface]) ∧ Below w.heap.size w w' := by
  obtain ⟨q0, q1, b2⟩ := w2 (.slice A n c) (.slice B n d) 43 w
  have c1 := meq_false A B c d n l m _ e0 (Kd.C_below hA b2) (Kd.C_below hB b2) h
  have c2 := Aside0.mk (fun (w' : World) (d' : Below w.heap.size w w') => mlt_calls A B c d l m n q e0 (e0.trans h.len) w' (Kd.C_below hA d') (Kd.C_below hB d') h.most x y h.hx h.hy h.hq h.hne h.hp h.sx h.sy (hL.below d') h.px h.py)
  have hnn := fun w => run_nil_neq Tryd.underlying38 w
  have B2 := Aside0.mk b2
  have Q0 := Aside0.mk q0
  have Q1 := Aside0.mk q1
  clear e0 hA hB h hL b2
  obtain ⟨b, hb⟩ : ∃ b, tlt x.f1 y.f1 = b := ⟨_, rfl⟩
  rw [hb] at c2 ⊢
  clear hb
  cases b with
  | true =>
    go_enter Tryd.func23, Tryd.ntmps23
    go_wp2_with (first | (go_at_call 34; (with_reducible refine c1.mono ?_); rintro e w1 ⟨rfl, d1⟩; have D1 := Aside0.mk (below_then B2.out B2.out.size d1); have r0 := pw_cell_below d1 Q0.out; have r1 := pw_cell_below d1 Q1.out; clear d1) | (go_at_call 35; (with_reducible refine (c2.out _ D1.out).mono ?_); rintro e w2 ⟨rfl, d2⟩; have D2 := Aside0.mk (below_then D1.out D1.out.size d2); clear d2))
    go_ret2
    exact ⟨rfl, D2.out⟩
  | false =>
    go_enter Tryd.func23, Tryd.ntmps23
    go_wp2_with (first | (go_at_call 34; (with_reducible refine c1.mono ?_); rintro e w1 ⟨rfl, d1⟩; have D1 := Aside0.mk (below_then B2.out B2.out.size d1); have r0 := pw_cell_below d1 Q0.out; have r1 := pw_cell_below d1 Q1.out; clear d1) | (go_at_call 35; (with_reducible refine (c2.out _ D1.out).mono ?_); rintro e w2 ⟨rfl, d2⟩; have D2 := Aside0.mk (below_then D1.out D1.out.size d2); clear d2))
    go_ret2
    exact ⟨rfl, D2.out⟩
/-- ZZMavenCompare and impl.MavenCompare answer what compare does. -/
theorem zzm_calls (A B : Option Addr) (c d n : Nat) (r : Int) (w : World) (hc : ∀ w' : World, Below w.heap.size w w' → Calls Tryd.prog 23 #[.agg #[.slice A n c], .agg #[.slice B n d]] w' fun e w2 => e = .returned (.tuple #[.int .i64 r, .nilIface]) ∧ Below w'.heap.size w' w2) :
    Calls Tryd.prog 17 #[.agg #[.slice A n c], .agg #[.slice B n d]] w fun e w' => e = .returned (.tuple #[.int .i64 r, .nilIface]) ∧ Below w.heap.size w w' := by
  obtain ⟨q0, q1, b2⟩ := w2 (.slice A n c) (.slice B n d) 43 w
  have B2 := Aside0.mk b2
  have c1 := hc _ b2
  clear hc b2
  go_enter Tryd.func17, Tryd.ntmps17
  go_wp2_with (first | (go_at_call 23; (with_reducible refine c1.mono ?_); rintro e w1 ⟨rfl, d1⟩; have D1 := Aside0.mk (below_then B2.out B2.out.size d1); clear d1))
  go_ret2
  exact ⟨rfl, D1.out⟩
set_option maxRecDepth 100000 in
set_option maxHeartbeats 2000000 in
theorem implM_calls (k : Nat) (A B : Option Addr) (c d n : Nat) (l m : List S31) (l' m' : List S60) (r : Int) (w : World) (e0 : n = l.length) (e1 : n = m.length) (hA : Kd.C k31 w A l.length l) (hB : Kd.C k31 w B m.length m) (hc : l.length ≤ c) (hd : m.length ≤ d) (hl : impl_maven.f k l = some l') (hm : impl_maven.f k m = some m') (hn : l'.length = n) (hn' : m'.length = n)
    (hcmp : ∀ (A' B' : Option Addr) (c' d' : Nat) (w' : World), Below w.heap.size w w' → Kd.C k60 w' A' l'.length l' → Kd.C k60 w' B' m'.length m' → Calls Tryd.prog 23 #[.agg #[.slice A' n c'], .agg #[.slice B' n d']] w' fun e w2 => e = .returned (.tuple #[.int .i64 r, .nilIface]) ∧ Below w'.heap.size w' w2) :
    Calls Tryd.prog 7 #[.slice A n c, .slice B n d] w fun e w' => e = .returned (.tuple #[.int .i64 r, .bool true]) ∧ Below w.heap.size w w' := by
  have c1 : Calls Tryd.prog 18 #[.slice A n c] w fun e w' => ∃ (A' : Option Addr) (c' : Nat), e = .returned (.agg #[.slice A' n c']) ∧ Kd.C k60 w' A' l'.length l' ∧ Below w.heap.size w w' := by
    rw [e0]
    refine (impl_maven.calls k A c l l' w hA hc hl).mono ?_
    rintro e w' ⟨v, rfl, hR, hb⟩
    obtain ⟨A', c', rfl⟩ := Kd.R_slice hR
    exact ⟨A', c', by rw [hn, e0], (Kd.R_reads' hR).2.2, hb⟩
  have c2 : ∀ w1 : World, Below w.heap.size w w1 → Calls Tryd.prog 18 #[.slice B n d] w1 fun e w' => ∃ (A' : Option Addr) (c' : Nat), e = .returned (.agg #[.slice A' n c']) ∧ Kd.C k60 w' A' m'.length m' ∧ Below w1.heap.size w1 w' := by
    intro w1 h1
    rw [e1]
    refine (impl_maven.calls k B d m m' w1 (Kd.C_below hB h1) hd hm).mono ?_
    rintro e w' ⟨v, rfl, hR, hb⟩
    obtain ⟨A', c', rfl⟩ := Kd.R_slice hR
    exact ⟨A', c', by rw [hn', e1], (Kd.R_reads' hR).2.2, hb⟩
  have C2 := Aside0.mk c2
  have HC := Aside0.mk (fun (A' B' : Option Addr) (c' d' : Nat) (w' : World) (h1 : Below w.heap.size w w') (h2 : Kd.C k60 w' A' l'.length l') (h3 : Kd.C k60 w' B' m'.length m') => zzm_calls A' B' c' d' n r w' (fun w2 h4 => hcmp A' B' c' d' w2 (below_then h1 h1.size h4) (Kd.C_below h2 h4) (Kd.C_below h3 h4)))
  have hnn := fun w => run_nil_nil Tryd.underlying38 w
  clear c2 hcmp hA hB hc hd hl hm hn hn' e0 e1
  go_enter Tryd.func7, Tryd.ntmps7
  go_wp2_with (first | (go_at_call 18; (with_reducible refine c1.mono ?_); rintro e w1 ⟨A1, a1, rfl, r1, d1⟩; have D1 := Aside0.mk d1; have R1 := Aside0.mk r1; clear d1 r1) | (go_at_call 18; (with_reducible refine (C2.out _ D1.out).mono ?_); rintro e w2 ⟨A2, a2, rfl, r2, d2⟩; have D2 := Aside0.mk (below_then D1.out D1.out.size d2); have R2 := Aside0.mk r2; have R3 := Aside0.mk (Kd.C_below R1.out d2); clear d2 r2) | (go_at_call 17; (with_reducible refine (HC.out _ _ _ _ _ D2.out R3.out R2.out).mono ?_); rintro e w3 ⟨rfl, d3⟩; have D3 := Aside0.mk (below_then D2.out D2.out.size d3); clear d3))
  go_quiet (fail)
  go_wp2_with fail
  go_ret2
  exact ⟨rfl, bel_drewN D3.out _⟩
end Go.Proofs.YtkecmlpihnjjgaaDoor.Giv
