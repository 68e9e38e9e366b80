/- Contracts by hand: a token of a Maven version: its place among those of unlike prefixes, what fills up beside it. -/
import Derived.Test.YtchbfjjeodnocaaDoorZC
import Derived.Test.YtchbfjjeodnocaaDoorZK
import Derived.Test.YtchbfjjeodnocaaDoorWMore
import Derived.Outline
namespace Go.Proofs.YtchbfjjeodnocaaDoor.Giv
open Go.RowKit Go.Proofs.YtchbfjjeodnocaaDoorW.PrintWords Go.Proofs.YtchbfjjeodnocaaDoorW.PrintLast Go.Proofs.YtchbfjjeodnocaaDoor.Pk Go.Proofs.YtchbfjjeodnocaaDoor.Ord Go.Proofs.YtchbfjjeodnocaaDoor.QM
set_option linter.unusedVariables false
set_option linter.unusedSimpArgs false

/-- A token's place: .qualifier, -qualifier, -number, .number; none: another prefix. -/
def qo (p v : ByteArray) : Option Int := if p.toList = [45] then (if (Num.parse v.toList).isSome then some 2 else some 1) else if p.toList = [46] then (if (Num.parse v.toList).isSome then some 3 else some 0) else none
theorem l45 : (⟨#[45]⟩ : ByteArray).toList = [45] := lit_toList [45]
theorem l46 : (⟨#[46]⟩ : ByteArray).toList = [46] := lit_toList [46]
theorem of45 {p : ByteArray} (h : p.toList = [45]) : p = ⟨#[45]⟩ := bs_eq h
theorem of46 {p : ByteArray} (h : p.toList = [46]) : p = ⟨#[46]⟩ := bs_eq h
abbrev tokA (p v : ByteArray) (n : Bool) : Array Value := #[.string p, .string v, .bool n]
set_option maxHeartbeats 4000000 in
set_option maxRecDepth 100000 in
theorem qo_ok (g : Nat) (p v : ByteArray) (n : Bool) (k : Int) (w : World) (hv : v.size ≤ 40000) (hL : Laid w) (hg : w.heap[g]? = some (.cells (tokA p v n) 127 (0, 0))) (hk : qo p v = some k) :
    Calls Tryd.prog 101 #[.pointer (some ⟨g, 0, none⟩)] w fun e w' => e = .returned (.tuple #[.int .i64 k, .nilIface]) ∧ Below w.heap.size w w' := by
  have g0 := blk_cell hg 0
  have g1 := blk_cell hg 1
  have g0' := fun (w' : World) (hb : Below w.heap.size w w') => pw_cell_below hb g0
  cases hp : Num.parse v.toList with
  | some z =>
    have cv := conv_some v w z hv hL hp
    unfold qo at hk
    rw [hp] at hk
    by_cases h45 : p.toList = [45]
    · rw [if_pos h45] at hk
      obtain rfl : k = 2 := by simpa using hk.symm
      obtain rfl := of45 h45
      clear hk hp hL hg h45
      go_enter Tryd.func101, Tryd.ntmps101
      go_wp2_with (first | (go_at_call 127; (with_reducible refine cv.mono ?_); rintro e w1 ⟨b, rfl, hb, d1⟩; have D1 := Aside0.mk d1; have p0 := g0' _ d1; clear hb d1))
      go_ret2
      exact ⟨rfl, D1.out⟩
    · rw [if_neg h45] at hk
      by_cases h46 : p.toList = [46]
      · rw [if_pos h46] at hk
        obtain rfl : k = 3 := by simpa using hk.symm
        obtain rfl := of46 h46
        clear hk hp hL hg h45 h46
        go_enter Tryd.func101, Tryd.ntmps101
        go_wp2_with (first | (go_at_call 127; (with_reducible refine cv.mono ?_); rintro e w1 ⟨b, rfl, hb, d1⟩; have D1 := Aside0.mk d1; have p0 := g0' _ d1; clear hb d1))
        go_ret2
        exact ⟨rfl, D1.out⟩
      · rw [if_neg h46] at hk
        exact absurd hk (by simp)
  | none =>
    have cv := conv_none v w hv hL hp
    unfold qo at hk
    rw [hp] at hk
    by_cases h45 : p.toList = [45]
    · rw [if_pos h45] at hk
      obtain rfl : k = 1 := by simpa using hk.symm
      obtain rfl := of45 h45
      clear hk hp hL hg h45
      go_enter Tryd.func101, Tryd.ntmps101
      go_wp2_with (first | (go_at_call 127; (with_reducible refine cv.mono ?_); rintro e w1 ⟨a, rfl, d1⟩; have D1 := Aside0.mk d1; have p0 := g0' _ d1; clear d1))
      go_ret2
      exact ⟨rfl, D1.out⟩
    · rw [if_neg h45] at hk
      by_cases h46 : p.toList = [46]
      · rw [if_pos h46] at hk
        obtain rfl : k = 0 := by simpa using hk.symm
        obtain rfl := of46 h46
        clear hk hp hL hg h45 h46
        go_enter Tryd.func101, Tryd.ntmps101
        go_wp2_with (first | (go_at_call 127; (with_reducible refine cv.mono ?_); rintro e w1 ⟨a, rfl, d1⟩; have D1 := Aside0.mk d1; have p0 := g0' _ d1; clear d1))
        go_ret2
        exact ⟨rfl, D1.out⟩
      · rw [if_neg h46] at hk
        exact absurd hk (by simp)
set_option maxHeartbeats 4000000 in
set_option maxRecDepth 100000 in
theorem qo_err (g : Nat) (p v : ByteArray) (n : Bool) (w : World) (hv : v.size ≤ 40000) (hL : Laid w) (hg : w.heap[g]? = some (.cells (tokA p v n) 127 (0, 0))) (hk : qo p v = none) :
    Calls Tryd.prog 101 #[.pointer (some ⟨g, 0, none⟩)] w fun e w' => ∃ a, e = .returned (.tuple #[.int .i64 0, errv a]) ∧ Below w.heap.size w w' := by
  have g0 := blk_cell hg 0
  have g1 := blk_cell hg 1
  have g0' := fun (w' : World) (hb : Below w.heap.size w w') => pw_cell_below hb g0
  obtain ⟨ai, hi⟩ := hL.inv
  have gi' := fun (w' : World) (hb : Below w.heap.size w w') => pw_cell_below hb hi
  have h45 : ¬ p.toList = [45] := fun h => by unfold qo at hk; rw [if_pos h] at hk; split at hk <;> exact absurd hk (by simp)
  have h46 : ¬ p.toList = [46] := fun h => by unfold qo at hk; rw [if_neg h45, if_pos h] at hk; split at hk <;> exact absurd hk (by simp)
  have b45 : (p.toList == [45]) = false := by simpa using h45
  have b46 : (p.toList == [46]) = false := by simpa using h46
  clear hk
  cases hp : Num.parse v.toList with
  | some z =>
    have cv := conv_some v w z hv hL hp
    clear hp hL hg hi g0 h45 h46
    go_enter Tryd.func101, Tryd.ntmps101
    go_wp2_with (first | (go_at_call 127; (with_reducible refine cv.mono ?_); rintro e w1 ⟨b, rfl, hb, d1⟩; have D1 := Aside0.mk d1; have p0 := g0' _ d1; have pi := gi' _ d1; clear hb d1))
    go_quiet (fail)
    go_wp2_with fail
    go_ret2
    exact ⟨_, rfl, bel_drewN D1.out _⟩
  | none =>
    have cv := conv_none v w hv hL hp
    clear hp hL hg hi g0 h45 h46
    go_enter Tryd.func101, Tryd.ntmps101
    go_wp2_with (first | (go_at_call 127; (with_reducible refine cv.mono ?_); rintro e w1 ⟨a, rfl, d1⟩; have D1 := Aside0.mk d1; have p0 := g0' _ d1; have pi := gi' _ d1; clear d1))
    go_quiet (fail)
    go_wp2_with fail
    go_ret2
    exact ⟨_, rfl, bel_drewN D1.out _⟩
set_option maxHeartbeats 1000000 in
set_option maxRecDepth 100000 in
theorem token_calls (p v : ByteArray) (n : Bool) (w : World) :
    Calls Tryd.prog 100 #[.agg (tokA p v n)] w fun e w' => e = .returned (.agg (tokA p v n)) ∧ Below w.heap.size w w' := by
  go_enter Tryd.func100, Tryd.ntmps100
  go_wp2_with fail
  refine bodyPost_ret (results_cell_row rfl _ _ (w.heap.size + 1) 127 #[.string p, .string v, .bool n] (0, 0) _ rfl (by have := blk_new (w.alloc (Obj.cells (tokA p v n) 75)) (Obj.cells #[Value.string p, Value.string v, Value.bool n] 127); simpa using this) Tryd.underlying127 rfl (by kernel_rfl)) rfl ?_
  exact ⟨rfl, below_alloc (below_alloc (Below.refl _ _) _) _⟩
set_option maxHeartbeats 1000000 in
set_option maxRecDepth 100000 in
theorem zzOrder_ok (p v : ByteArray) (n : Bool) (k : Int) (w : World) (hv : v.size ≤ 40000) (hL : Laid w) (hk : qo p v = some k) :
    Calls Tryd.prog 60 #[.agg (tokA p v n)] w fun e w' => e = .returned (.tuple #[.int .i64 k, .nilIface]) ∧ Below w.heap.size w w' := by
  have b0 := below_alloc (Below.refl w.heap.size w) (Obj.cells (tokA p v n) 75)
  have B0 := Aside0.mk b0
  have c2 := fun (w' : World) (hb : Below w.heap.size w w') (g : Nat) (hg : w'.heap[g]? = some (.cells (tokA p v n) 127 (0, 0))) => qo_ok g p v n k w' hv (hL.below hb) hg hk
  clear hL hk b0
  go_enter Tryd.func60, Tryd.ntmps60
  go_wp2_with (first | (go_at_call 100; (with_reducible refine (token_calls p v n _).mono ?_); rintro e w1 ⟨rfl, d1⟩; have D1 := Aside0.mk (below_then B0.out B0.out.size d1); clear d1) | (go_at_call 101; (with_reducible refine (c2 _ (below_alloc D1.out _) _ (blk_new _ _)).mono ?_); rintro e w2 ⟨rfl, d2⟩; have D2 := Aside0.mk (below_then (below_alloc D1.out _) (below_alloc D1.out _).size d2); clear d2))
  go_ret2
  exact ⟨rfl, D2.out⟩
set_option maxHeartbeats 1000000 in
set_option maxRecDepth 100000 in
theorem zzOrder_err (p v : ByteArray) (n : Bool) (w : World) (hv : v.size ≤ 40000) (hL : Laid w) (hk : qo p v = none) :
    Calls Tryd.prog 60 #[.agg (tokA p v n)] w fun e w' => ∃ a, e = .returned (.tuple #[.int .i64 0, errv a]) ∧ Below w.heap.size w w' := by
  have b0 := below_alloc (Below.refl w.heap.size w) (Obj.cells (tokA p v n) 75)
  have B0 := Aside0.mk b0
  have c2 := fun (w' : World) (hb : Below w.heap.size w w') (g : Nat) (hg : w'.heap[g]? = some (.cells (tokA p v n) 127 (0, 0))) => qo_err g p v n w' hv (hL.below hb) hg hk
  clear hL hk b0
  go_enter Tryd.func60, Tryd.ntmps60
  go_wp2_with (first | (go_at_call 100; (with_reducible refine (token_calls p v n _).mono ?_); rintro e w1 ⟨rfl, d1⟩; have D1 := Aside0.mk (below_then B0.out B0.out.size d1); clear d1) | (go_at_call 101; (with_reducible refine (c2 _ (below_alloc D1.out _) _ (blk_new _ _)).mono ?_); rintro e w2 ⟨a, rfl, d2⟩; have D2 := Aside0.mk (below_then (below_alloc D1.out _) (below_alloc D1.out _).size d2); clear d2))
  go_ret2
  exact ⟨_, rfl, D2.out⟩
set_option maxHeartbeats 1000000 in
set_option maxRecDepth 100000 in
theorem implOrder_ok (p v : ByteArray) (n : Bool) (k : Int) (w : World) (hv : v.size ≤ 40000) (hL : Laid w) (hk : qo p v = some k) :
    Calls Tryd.prog 17 #[.agg (tokA p v n)] w fun e w' => e = .returned (.tuple #[.int .i64 k, .bool true]) ∧ Below w.heap.size w w' := by
  have b0 := below_alloc (Below.refl w.heap.size w) (Obj.cells (tokA p v n) 23)
  have B0 := Aside0.mk b0
  have c2 := zzOrder_ok p v n k (w.alloc (Obj.cells (tokA p v n) 23)) hv (hL.below b0) hk
  have hnn := fun w => run_nil_nil Tryd.underlying72 w
  clear hL hk b0
  go_enter Tryd.func17, Tryd.ntmps17
  go_wp2_with (first | (go_at_call 60; (with_reducible refine c2.mono ?_); rintro e w1 ⟨rfl, d1⟩; have D1 := Aside0.mk (below_then B0.out B0.out.size d1); clear d1))
  go_quiet (fail)
  go_wp2_with fail
  go_ret2
  exact ⟨rfl, bel_drewN D1.out _⟩
set_option maxHeartbeats 1000000 in
set_option maxRecDepth 100000 in
theorem implOrder_err (p v : ByteArray) (n : Bool) (w : World) (hv : v.size ≤ 40000) (hL : Laid w) (hk : qo p v = none) :
    Calls Tryd.prog 17 #[.agg (tokA p v n)] w fun e w' => e = .returned (.tuple #[.int .i64 0, .bool false]) ∧ Below w.heap.size w w' := by
  have b0 := below_alloc (Below.refl w.heap.size w) (Obj.cells (tokA p v n) 23)
  have B0 := Aside0.mk b0
  have c2 := zzOrder_err p v n (w.alloc (Obj.cells (tokA p v n) 23)) hv (hL.below b0) hk
  have hnn := fun w => run_nil_nil Tryd.underlying72 w
  clear hL hk b0
  go_enter Tryd.func17, Tryd.ntmps17
  go_wp2_with (first | (go_at_call 60; (with_reducible refine c2.mono ?_); rintro e w1 ⟨a, rfl, d1⟩; have D1 := Aside0.mk (below_then B0.out B0.out.size d1); clear d1))
  go_quiet (fail)
  go_wp2_with fail
  go_ret2
  exact ⟨rfl, bel_drewN D1.out _⟩
def qoR (p v : ByteArray) : Int × Bool := match qo p v with | some k => (k, true) | none => (0, false)
def impl_TokenOrder.f (a0_0 a0_1 : ByteArray) (a0_2 : Bool) : Option (Int × Bool) := if a0_1.size ≤ 40000 then some (qoR a0_0 a0_1) else none
theorem impl_TokenOrder.calls (a0_0 a0_1 : ByteArray) (a0_2 : Bool) (r1 : Int) (r2 : Bool) (w : World) (h : impl_TokenOrder.f a0_0 a0_1 a0_2 = some (r1, r2)) (hL : Laid w) :
    Calls Tryd.prog 17 #[.agg #[.string a0_0, .string a0_1, .bool a0_2]] w fun e w' => e = .returned (.tuple #[.int .i64 r1, .bool r2]) ∧ Below w.heap.size w w' := by
  unfold impl_TokenOrder.f at h
  split at h
  · next hc =>
    have h := Option.some.inj h
    unfold qoR at h
    cases hq : qo a0_0 a0_1 with
    | some k =>
      rw [hq] at h
      obtain ⟨rfl, rfl⟩ := Prod.mk.inj h
      exact implOrder_ok a0_0 a0_1 a0_2 k w hc hL hq
    | none =>
      rw [hq] at h
      obtain ⟨rfl, rfl⟩ := Prod.mk.inj h
      exact implOrder_err a0_0 a0_1 a0_2 w hc hL hq
  · exact absurd h (by simp)
/-- What fills up beside a token. -/
def nullTok (p v : ByteArray) : Option (ByteArray × ByteArray × Bool) := if p.toList = [46] then some (⟨#[46]⟩, (if v.toList = [115, 112] then ⟨#[]⟩ else ⟨#[48]⟩), true) else if p.toList = [45] then some (⟨#[45]⟩, ⟨#[]⟩, true) else none
theorem nm_end {w : World} {tmps : Array Value} (a b : ByteArray) (c : Bool) (er : Value) {g : Nat} (hp : tmps.getD 2 undef = .pointer (some ⟨g, 0, none⟩)) (he : tmps.getD 3 undef = er) (hg : w.heap[g]? = some (.cells (tokA a b c) 127 (0, 0))) :
    (results Tryd.f102 tmps).run Tryd.prog w = .ok (.tuple #[.agg (tokA a b c), er]) w := by
  subst he
  exact results_list (rs := [.cell 2 127, .tmp 3]) rfl (by simp) (.cell g 127 (tokA a b c) (0, 0) _ hp hg Tryd.underlying127 rfl (by kernel_rfl) (.tmp .nil))
set_option maxHeartbeats 2000000 in
set_option maxRecDepth 100000 in
theorem nm_ok (p v : ByteArray) (n : Bool) (q1 q2 : ByteArray) (q3 : Bool) (w : World) (hk : nullTok p v = some (q1, q2, q3)) :
    Calls Tryd.prog 102 #[.agg (tokA p v n)] w fun e w' => e = .returned (.tuple #[.agg (tokA q1 q2 q3), .nilIface]) ∧ Below w.heap.size w w' := by
  have b1 := below_alloc (below_alloc (Below.refl w.heap.size w) (Obj.cells (tokA p v n) 127)) (Obj.cells (tokA q1 q2 q3) 127)
  have hg := blk_new (w.alloc (Obj.cells (tokA p v n) 127)) (Obj.cells (tokA q1 q2 q3) 127)
  rw [show (w.alloc (Obj.cells (tokA p v n) 127)).heap.size = w.heap.size + 1 by simp] at hg
  have B1 := Aside0.mk b1
  have HG := Aside0.mk hg
  clear b1 hg
  unfold nullTok at hk
  by_cases h46 : p.toList = [46]
  · rw [if_pos h46] at hk
    by_cases hsp : v.toList = [115, 112]
    · rw [if_pos hsp] at hk
      have hk := Option.some.inj hk
      simp only [Prod.mk.injEq] at hk
      obtain ⟨rfl, rfl, rfl⟩ := hk
      obtain rfl := of46 h46
      obtain rfl : v = ⟨#[115, 112]⟩ := bs_eq hsp
      clear h46 hsp
      go_enter Tryd.func102, Tryd.ntmps102
      go_wp2_with fail
      exact bodyPost_ret (nm_end _ _ _ _ rfl rfl HG.out) rfl ⟨rfl, B1.out⟩
    · rw [if_neg hsp] at hk
      have hk := Option.some.inj hk
      simp only [Prod.mk.injEq] at hk
      obtain ⟨rfl, rfl, rfl⟩ := hk
      obtain rfl := of46 h46
      have bsp : (v.toList == [115, 112]) = false := by simpa using hsp
      clear h46 hsp
      go_enter Tryd.func102, Tryd.ntmps102
      go_wp2_with fail
      exact bodyPost_ret (nm_end _ _ _ _ rfl rfl HG.out) rfl ⟨rfl, B1.out⟩
  · rw [if_neg h46] at hk
    by_cases h45 : p.toList = [45]
    · rw [if_pos h45] at hk
      have hk := Option.some.inj hk
      simp only [Prod.mk.injEq] at hk
      obtain ⟨rfl, rfl, rfl⟩ := hk
      obtain rfl := of45 h45
      clear h46 h45
      go_enter Tryd.func102, Tryd.ntmps102
      go_wp2_with fail
      exact bodyPost_ret (nm_end _ _ _ _ rfl rfl HG.out) rfl ⟨rfl, B1.out⟩
    · rw [if_neg h45] at hk
      exact absurd hk (by simp)
set_option maxHeartbeats 2000000 in
set_option maxRecDepth 100000 in
theorem nm_err (p v : ByteArray) (n : Bool) (w : World) (hL : Laid w) (hk : nullTok p v = none) :
    Calls Tryd.prog 102 #[.agg (tokA p v n)] w fun e w' => ∃ a, e = .returned (.tuple #[.agg (tokA ⟨#[]⟩ ⟨#[]⟩ false), errv a]) ∧ Below w.heap.size w w' := by
  have b0 := below_alloc (Below.refl w.heap.size w) (Obj.cells (tokA p v n) 127)
  have b1 := below_alloc b0 (Obj.cells (tokA ⟨#[]⟩ ⟨#[]⟩ false) 127)
  have hg := blk_new (w.alloc (Obj.cells (tokA p v n) 127)) (Obj.cells (tokA ⟨#[]⟩ ⟨#[]⟩ false) 127)
  rw [show (w.alloc (Obj.cells (tokA p v n) 127)).heap.size = w.heap.size + 1 by simp] at hg
  have B1 := Aside0.mk b1
  have HG := Aside0.mk hg
  have h46 : ¬ p.toList = [46] := fun h => by unfold nullTok at hk; rw [if_pos h] at hk; exact absurd hk (by simp)
  have h45 : ¬ p.toList = [45] := fun h => by unfold nullTok at hk; rw [if_neg h46, if_pos h] at hk; exact absurd hk (by simp)
  have e45 : (p.toList == [45]) = false := by simpa using h45
  have e46 : (p.toList == [46]) = false := by simpa using h46
  obtain ⟨ai, hi⟩ := hL.inv
  have pi := pw_cell_below b1 hi
  clear b0 b1 hg hk h45 h46 hL hi
  go_enter Tryd.func102, Tryd.ntmps102
  go_wp2_with fail
  go_region
  all_goals
    go_wp2_with fail
    exact bodyPost_ret (nm_end _ _ _ _ rfl rfl HG.out) rfl ⟨_, rfl, Below.drew B1.out⟩
theorem zn_ok_end {w : World} {tmps : Array Value} (a b : ByteArray) (c : Bool) (er : Value) {g : Nat} (hp : tmps.getD 2 undef = .pointer (some ⟨g, 0, none⟩)) (he : tmps.getD 3 undef = er) (hg : w.heap[g]? = some (.cells (tokA a b c) 75 (0, 0))) :
    (results Tryd.f61 tmps).run Tryd.prog w = .ok (.tuple #[.agg (tokA a b c), er]) w := by
  subst he
  exact results_list (rs := [.cell 2 75, .tmp 3]) rfl (by simp) (.cell g 75 (tokA a b c) (0, 0) _ hp hg Tryd.underlying75 rfl (by kernel_rfl) (.tmp .nil))
set_option maxHeartbeats 2000000 in
set_option maxRecDepth 100000 in
theorem zn_ok (p v : ByteArray) (n : Bool) (q1 q2 : ByteArray) (q3 : Bool) (w : World) (hk : nullTok p v = some (q1, q2, q3)) :
    Calls Tryd.prog 61 #[.agg (tokA p v n)] w fun e w' => e = .returned (.tuple #[.agg (tokA q1 q2 q3), .nilIface]) ∧ Below w.heap.size w w' := by
  have b0 := below_alloc (below_alloc (Below.refl w.heap.size w) (Obj.cells (tokA p v n) 75)) (Obj.cells (tokA ⟨#[]⟩ ⟨#[]⟩ false) 75)
  have h0 := blk_new (w.alloc (Obj.cells (tokA p v n) 75)) (Obj.cells (tokA ⟨#[]⟩ ⟨#[]⟩ false) 75)
  rw [show (w.alloc (Obj.cells (tokA p v n) 75)).heap.size = w.heap.size + 1 by simp] at h0
  have B0 := Aside0.mk b0
  have H0 := Aside0.mk h0
  have c2 := fun (w' : World) (hb : Below w.heap.size w w') => nm_ok p v n q1 q2 q3 w' hk
  clear b0 h0
  go_enter Tryd.func61, Tryd.ntmps61
  go_wp2_with (first | (go_at_call 100; (with_reducible refine (token_calls p v n _).mono ?_); rintro e w1 ⟨rfl, d1⟩; have D1 := Aside0.mk (below_then B0.out B0.out.size d1); have H1 := Aside0.mk ((d1.block _ (blk_lt H0.out)).trans H0.out); clear d1) | (go_at_call 102; (with_reducible refine (c2 _ D1.out).mono ?_); rintro e w2 ⟨rfl, d2⟩; have D2 := Aside0.mk (below_then D1.out D1.out.size d2); have h2 := (d2.block _ (blk_lt H1.out)).trans H1.out; have lt2 := blk_lt h2; have p0 := blk_cell h2 0; have p1 := blk_cell h2 1; have p2 := blk_cell h2 2; have f0 := Lib.frozen_of_heap h2 0; have f1 := Lib.frozen_of_heap h2 1; have f2 := Lib.frozen_of_heap h2 2; have H2 := Aside0.mk h2; clear d2 h2))
  exact bodyPost_ret (zn_ok_end q1 q2 q3 _ rfl rfl (blk_alloc (blk_put (cs := #[.string q1, .string q2, .bool false]) (blk_put (cs := #[.string q1, .string (⟨#[]⟩ : ByteArray), .bool false]) (blk_put (cs := #[.string (⟨#[]⟩ : ByteArray), .string (⟨#[]⟩ : ByteArray), .bool false]) H2.out 0 _ rfl) 1 _ rfl) 2 _ rfl) _)) rfl ⟨rfl, below_alloc (((D2.out.setCell (Nat.le_succ _) _).setCell (Nat.le_succ _) _).setCell (Nat.le_succ _) _) _⟩
set_option maxHeartbeats 2000000 in
set_option maxRecDepth 100000 in
theorem zn_err (p v : ByteArray) (n : Bool) (w : World) (hL : Laid w) (hk : nullTok p v = none) :
    Calls Tryd.prog 61 #[.agg (tokA p v n)] w fun e w' => ∃ a, e = .returned (.tuple #[.agg (tokA ⟨#[]⟩ ⟨#[]⟩ false), errv a]) ∧ Below w.heap.size w w' := by
  have b0 := below_alloc (below_alloc (Below.refl w.heap.size w) (Obj.cells (tokA p v n) 75)) (Obj.cells (tokA ⟨#[]⟩ ⟨#[]⟩ false) 75)
  have h0 := blk_new (w.alloc (Obj.cells (tokA p v n) 75)) (Obj.cells (tokA ⟨#[]⟩ ⟨#[]⟩ false) 75)
  rw [show (w.alloc (Obj.cells (tokA p v n) 75)).heap.size = w.heap.size + 1 by simp] at h0
  have B0 := Aside0.mk b0
  have H0 := Aside0.mk h0
  have c2 := fun (w' : World) (hb : Below w.heap.size w w') => nm_err p v n w' (hL.below hb) hk
  clear b0 h0 hL
  go_enter Tryd.func61, Tryd.ntmps61
  go_wp2_with (first | (go_at_call 100; (with_reducible refine (token_calls p v n _).mono ?_); rintro e w1 ⟨rfl, d1⟩; have D1 := Aside0.mk (below_then B0.out B0.out.size d1); have H1 := Aside0.mk ((d1.block _ (blk_lt H0.out)).trans H0.out); clear d1) | (go_at_call 102; (with_reducible refine (c2 _ D1.out).mono ?_); rintro e w2 ⟨a, rfl, d2⟩; have D2 := Aside0.mk (below_then D1.out D1.out.size d2); have h2 := (d2.block _ (blk_lt H1.out)).trans H1.out; have lt2 := blk_lt h2; have p0 := blk_cell h2 0; have p1 := blk_cell h2 1; have p2 := blk_cell h2 2; have f0 := Lib.frozen_of_heap h2 0; have f1 := Lib.frozen_of_heap h2 1; have f2 := Lib.frozen_of_heap h2 2; have H2 := Aside0.mk h2; clear d2 h2))
  exact bodyPost_ret (zn_ok_end ⟨#[]⟩ ⟨#[]⟩ false _ rfl rfl (blk_alloc (blk_put (cs := #[.string (⟨#[]⟩ : ByteArray), .string (⟨#[]⟩ : ByteArray), .bool false]) (blk_put (cs := #[.string (⟨#[]⟩ : ByteArray), .string (⟨#[]⟩ : ByteArray), .bool false]) (blk_put (cs := #[.string (⟨#[]⟩ : ByteArray), .string (⟨#[]⟩ : ByteArray), .bool false]) H2.out 0 _ rfl) 1 _ rfl) 2 _ rfl) _)) rfl ⟨_, rfl, below_alloc (((D2.out.setCell (Nat.le_succ _) _).setCell (Nat.le_succ _) _).setCell (Nat.le_succ _) _) _⟩
theorem in_end {w : World} {tmps : Array Value} (a b : ByteArray) (c : Bool) (er : Value) {g : Nat} (hp : tmps.getD 2 undef = .pointer (some ⟨g, 0, none⟩)) (he : tmps.getD 3 undef = er) (hg : w.heap[g]? = some (.cells (tokA a b c) 23 (0, 0))) :
    (results Tryd.f19 tmps).run Tryd.prog w = .ok (.tuple #[.agg (tokA a b c), er]) w := by
  subst he
  exact results_list (rs := [.cell 2 23, .tmp 3]) rfl (by simp) (.cell g 23 (tokA a b c) (0, 0) _ hp hg Tryd.underlying23 rfl (by kernel_rfl) (.tmp .nil))
set_option maxHeartbeats 2000000 in
set_option maxRecDepth 100000 in
theorem in_ok (p v : ByteArray) (n : Bool) (q1 q2 : ByteArray) (q3 : Bool) (w : World) (hk : nullTok p v = some (q1, q2, q3)) :
    Calls Tryd.prog 19 #[.agg (tokA p v n)] w fun e w' => e = .returned (.tuple #[.agg (tokA q1 q2 q3), .bool true]) ∧ Below w.heap.size w w' := by
  have b0 := below_alloc (below_alloc (Below.refl w.heap.size w) (Obj.cells (tokA p v n) 23)) (Obj.cells (tokA ⟨#[]⟩ ⟨#[]⟩ false) 23)
  have h0 := blk_new (w.alloc (Obj.cells (tokA p v n) 23)) (Obj.cells (tokA ⟨#[]⟩ ⟨#[]⟩ false) 23)
  rw [show (w.alloc (Obj.cells (tokA p v n) 23)).heap.size = w.heap.size + 1 by simp] at h0
  have B0 := Aside0.mk b0
  have H0 := Aside0.mk h0
  have c2 := fun (w' : World) (hb : Below w.heap.size w w') => zn_ok p v n q1 q2 q3 w' hk
  clear b0 h0
  go_enter Tryd.func19, Tryd.ntmps19
  go_wp2_with (first | (go_at_call 61; (with_reducible refine (c2 _ B0.out).mono ?_); rintro e w2 ⟨rfl, d2⟩; have D2 := Aside0.mk (below_then B0.out B0.out.size d2); have h2 := (d2.block _ (blk_lt H0.out)).trans H0.out; have lt2 := blk_lt h2; have p0 := blk_cell h2 0; have p1 := blk_cell h2 1; have p2 := blk_cell h2 2; have f0 := Lib.frozen_of_heap h2 0; have f1 := Lib.frozen_of_heap h2 1; have f2 := Lib.frozen_of_heap h2 2; have H2 := Aside0.mk h2; clear d2 h2))
  exact bodyPost_ret (in_end q1 q2 q3 _ rfl rfl (blk_alloc (blk_put (cs := #[.string q1, .string q2, .bool false]) (blk_put (cs := #[.string q1, .string (⟨#[]⟩ : ByteArray), .bool false]) (blk_put (cs := #[.string (⟨#[]⟩ : ByteArray), .string (⟨#[]⟩ : ByteArray), .bool false]) H2.out 0 _ rfl) 1 _ rfl) 2 _ rfl) _)) rfl ⟨rfl, below_alloc (((D2.out.setCell (Nat.le_succ _) _).setCell (Nat.le_succ _) _).setCell (Nat.le_succ _) _) _⟩
set_option maxHeartbeats 2000000 in
set_option maxRecDepth 100000 in
theorem in_err (p v : ByteArray) (n : Bool) (w : World) (hL : Laid w) (hk : nullTok p v = none) :
    Calls Tryd.prog 19 #[.agg (tokA p v n)] w fun e w' => e = .returned (.tuple #[.agg (tokA ⟨#[]⟩ ⟨#[]⟩ false), .bool false]) ∧ Below w.heap.size w w' := by
  have b0 := below_alloc (below_alloc (Below.refl w.heap.size w) (Obj.cells (tokA p v n) 23)) (Obj.cells (tokA ⟨#[]⟩ ⟨#[]⟩ false) 23)
  have h0 := blk_new (w.alloc (Obj.cells (tokA p v n) 23)) (Obj.cells (tokA ⟨#[]⟩ ⟨#[]⟩ false) 23)
  rw [show (w.alloc (Obj.cells (tokA p v n) 23)).heap.size = w.heap.size + 1 by simp] at h0
  have B0 := Aside0.mk b0
  have H0 := Aside0.mk h0
  have c2 := fun (w' : World) (hb : Below w.heap.size w w') => zn_err p v n w' (hL.below hb) hk
  clear b0 h0 hL
  go_enter Tryd.func19, Tryd.ntmps19
  go_wp2_with (first | (go_at_call 61; (with_reducible refine (c2 _ B0.out).mono ?_); rintro e w2 ⟨a, rfl, d2⟩; have D2 := Aside0.mk (below_then B0.out B0.out.size d2); have h2 := (d2.block _ (blk_lt H0.out)).trans H0.out; have lt2 := blk_lt h2; have p0 := blk_cell h2 0; have p1 := blk_cell h2 1; have p2 := blk_cell h2 2; have f0 := Lib.frozen_of_heap h2 0; have f1 := Lib.frozen_of_heap h2 1; have f2 := Lib.frozen_of_heap h2 2; have H2 := Aside0.mk h2; clear d2 h2))
  exact bodyPost_ret (in_end ⟨#[]⟩ ⟨#[]⟩ false _ rfl rfl (blk_alloc (blk_put (cs := #[.string (⟨#[]⟩ : ByteArray), .string (⟨#[]⟩ : ByteArray), .bool false]) (blk_put (cs := #[.string (⟨#[]⟩ : ByteArray), .string (⟨#[]⟩ : ByteArray), .bool false]) (blk_put (cs := #[.string (⟨#[]⟩ : ByteArray), .string (⟨#[]⟩ : ByteArray), .bool false]) H2.out 0 _ rfl) 1 _ rfl) 2 _ rfl) _)) rfl ⟨rfl, below_alloc (((D2.out.setCell (Nat.le_succ _) _).setCell (Nat.le_succ _) _).setCell (Nat.le_succ _) _) _⟩
def nullR (p v : ByteArray) : ByteArray × ByteArray × Bool × Bool := match nullTok p v with | some q => (q.1, q.2.1, q.2.2, true) | none => (⟨#[]⟩, ⟨#[]⟩, false, false)
def impl_TokenNull.f (a0_0 a0_1 : ByteArray) (a0_2 : Bool) : Option (ByteArray × ByteArray × Bool × Bool) := some (nullR a0_0 a0_1)
theorem impl_TokenNull.calls (a0_0 a0_1 : ByteArray) (a0_2 : Bool) (r1 r2 : ByteArray) (r3 r4 : Bool) (w : World) (h : impl_TokenNull.f a0_0 a0_1 a0_2 = some (r1, r2, r3, r4)) (hL : Laid w) :
    Calls Tryd.prog 19 #[.agg #[.string a0_0, .string a0_1, .bool a0_2]] w fun e w' => e = .returned (.tuple #[.agg #[.string r1, .string r2, .bool r3], .bool r4]) ∧ Below w.heap.size w w' := by
  unfold impl_TokenNull.f at h
  have h := Option.some.inj h
  unfold nullR at h
  cases hq : nullTok a0_0 a0_1 with
  | some q =>
    rw [hq] at h
    simp only [Prod.mk.injEq] at h
    obtain ⟨rfl, rfl, rfl, rfl⟩ := h
    exact in_ok a0_0 a0_1 a0_2 q.1 q.2.1 q.2.2 w hq
  | none =>
    rw [hq] at h
    simp only [Prod.mk.injEq] at h
    obtain ⟨rfl, rfl, rfl, rfl⟩ := h
    exact in_err a0_0 a0_1 a0_2 w hL hq
/-- Is the token dropped at the end? -/
def trimB (v : ByteArray) : Bool := v.toList == [48] || (v.toList == [] || (v.toList == [102, 105, 110, 97, 108] || v.toList == [103, 97]))
set_option maxHeartbeats 4000000 in
set_option maxRecDepth 100000 in
theorem st_calls (g : Nat) (p v : ByteArray) (n : Bool) (w : World) (hg : w.heap[g]? = some (.cells (tokA p v n) 127 (0, 0))) :
    Calls Tryd.prog 103 #[.pointer (some ⟨g, 0, none⟩)] w fun e w' => e = .returned (.bool (trimB v)) ∧ Below w.heap.size w w' := by
  have g1 := blk_cell hg 1
  have TB := Aside0.mk (show trimB v = (v.toList == [48] || (v.toList == [] || (v.toList == [102, 105, 110, 97, 108] || v.toList == [103, 97]))) from rfl)
  generalize trimB v = tb at *
  cases h1 : (v.toList == [48]) with
  | true =>
    obtain rfl : v = ⟨#[48]⟩ := bs_eq (by simpa using h1)
    have T := Aside0.mk (show tb = true by rw [TB.out, h1]; rfl)
    clear TB h1 hg
    go_enter Tryd.func103, Tryd.ntmps103
    go_wp2_with fail
    go_ret
    exact ⟨by rw [T.out]; rfl, Below.refl _ _⟩
  | false =>
    cases h2 : (v.toList == ([] : List UInt8)) with
    | true =>
      obtain rfl : v = ⟨#[]⟩ := bs_eq (by simpa using h2)
      have T := Aside0.mk (show tb = true by rw [TB.out, h1, h2]; rfl)
      clear TB h1 h2 hg
      go_enter Tryd.func103, Tryd.ntmps103
      go_wp2_with fail
      go_ret
      exact ⟨by rw [T.out]; rfl, Below.refl _ _⟩
    | false =>
      cases h3 : (v.toList == [102, 105, 110, 97, 108]) with
      | true =>
        obtain rfl : v = ⟨#[102, 105, 110, 97, 108]⟩ := bs_eq (by simpa using h3)
        have T := Aside0.mk (show tb = true by rw [TB.out, h1, h2, h3]; rfl)
        clear TB h1 h2 h3 hg
        go_enter Tryd.func103, Tryd.ntmps103
        go_wp2_with fail
        go_ret
        exact ⟨by rw [T.out]; rfl, Below.refl _ _⟩
      | false =>
        have h2' : v.toList.isEmpty = false := by
          cases hv : v.toList with
          | nil => rw [hv] at h2; exact absurd h2 (by simp)
          | cons => rfl
        have T := Aside0.mk (show tb = (v.toList == [103, 97]) by rw [TB.out, h1, h2, h3]; rfl)
        clear TB hg
        go_enter Tryd.func103, Tryd.ntmps103
        go_wp2_with fail
        go_ret
        exact ⟨by rw [T.out]; rfl, Below.refl _ _⟩
set_option maxHeartbeats 1000000 in
set_option maxRecDepth 100000 in
theorem zt_calls (p v : ByteArray) (n : Bool) (w : World) :
    Calls Tryd.prog 62 #[.agg (tokA p v n)] w fun e w' => e = .returned (.bool (trimB v)) ∧ Below w.heap.size w w' := by
  have B0 := Aside0.mk (below_alloc (Below.refl w.heap.size w) (Obj.cells (tokA p v n) 75))
  have c2 := fun (w' : World) (g : Nat) (hg : w'.heap[g]? = some (.cells (tokA p v n) 127 (0, 0))) => st_calls g p v n w' hg
  generalize trimB v = tb at *
  go_enter Tryd.func62, Tryd.ntmps62
  go_wp2_with (first | (go_at_call 100; (with_reducible refine (token_calls p v n _).mono ?_); rintro e w1 ⟨rfl, d1⟩; have D1 := Aside0.mk (below_then B0.out B0.out.size d1); clear d1) | (go_at_call 103; (with_reducible refine (c2 _ _ (blk_new _ _)).mono ?_); rintro e w2 ⟨rfl, d2⟩; have D2 := Aside0.mk (below_then (below_alloc D1.out _) (below_alloc D1.out _).size d2); clear d2))
  go_ret
  exact ⟨rfl, D2.out⟩
set_option maxHeartbeats 1000000 in
set_option maxRecDepth 100000 in
theorem it_calls (p v : ByteArray) (n : Bool) (w : World) :
    Calls Tryd.prog 21 #[.agg (tokA p v n)] w fun e w' => e = .returned (.bool (trimB v)) ∧ Below w.heap.size w w' := by
  have B0 := Aside0.mk (below_alloc (Below.refl w.heap.size w) (Obj.cells (tokA p v n) 23))
  have c2 := fun (w' : World) => zt_calls p v n w'
  generalize trimB v = tb at *
  go_enter Tryd.func21, Tryd.ntmps21
  go_wp2_with (first | (go_at_call 62; (with_reducible refine (c2 _).mono ?_); rintro e w2 ⟨rfl, d2⟩; have D2 := Aside0.mk (below_then B0.out B0.out.size d2); clear d2))
  go_ret
  exact ⟨rfl, D2.out⟩
def impl_TokenTrims.f (a0_0 a0_1 : ByteArray) (a0_2 : Bool) : Option Bool := some (trimB a0_1)
theorem impl_TokenTrims.calls (a0_0 a0_1 : ByteArray) (a0_2 : Bool) (r : Bool) (w : World) (h : impl_TokenTrims.f a0_0 a0_1 a0_2 = some r) :
    Calls Tryd.prog 21 #[.agg #[.string a0_0, .string a0_1, .bool a0_2]] w fun e w' => e = .returned (.bool r) ∧ Below w.heap.size w w' := by
  obtain rfl := Option.some.inj h
  exact it_calls a0_0 a0_1 a0_2 w
end Go.Proofs.YtchbfjjeodnocaaDoor.Giv
