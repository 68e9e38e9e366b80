/- Contracts by hand: lists of plain numbers compared (ZZComponents, impl.CompareNumbers). -/
import Derived.Test.YtcaeghgbeldlaaaAGivZb
import Derived.Test.YtcaeghgbeldlaaaQAx2p
namespace Go.Proofs.Ytcaeghgbeldlaaa.Giv
open Go.RowKit Go.Proofs.YtcaeghgbeldlaaaW.PrintWords Go.Proofs.YtcaeghgbeldlaaaW.PrintLast Go.Proofs.Ytcaeghgbeldlaaa.Pk Go.Proofs.Ytcaeghgbeldlaaa.Ord Go.Proofs.Ytcaeghgbeldlaaa.QA
set_option linter.unusedVariables false
set_option linter.unusedSimpArgs false

/-- Plain numbers of the statements as the program's. -/
def zi (l : List S29) : List S40 := l.map fun x => ⟨x.f0, x.f1⟩
theorem zi_len (l : List S29) : (zi l).length = l.length := by simp [zi]
/-- What plain numbers of the statements tell. -/
def zn (l : List S29) : List Int := l.map fun x => zOf x.f0 x.f1
theorem zsOf_zi (l : List S29) : zsOf (zi l) = zn l := by
  unfold zsOf zi zn
  rw [List.map_map]
  rfl
theorem zn_len (l : List S29) : (zn l).length = l.length := by simp [zn]
theorem bigs_loop (l : List S29) (hl : l.length ≤ 100000) (d : Nat) : ∀ i : Nat, i + d = l.length → Ev (fun k => impl_bigs.l0 k (zi (l.take i)) l (l.length : Int) (i : Int)) (zi l) := by
  induction d with
  | zero =>
    intro i hi
    refine Ev.step (fun k => by rw [impl_bigs.l0]) ?_
    rw [List.take_of_length_le (by omega)]
    refine ev_neg (by omega) ?_
    exact Ev.now _
  | succ d ih =>
    intro i hi
    have hlt : i < l.length := by omega
    have w := wr i (by omega)
    have e : rd_T29 l (i : Int) = l[i]'hlt := by
      unfold rd_T29
      rw [Int.toNat_natCast, List.getD_eq_getElem?_getD, List.getElem?_eq_getElem hlt]
      rfl
    have s : zi (l.take i) ++ [(⟨(l[i]'hlt).f0, (l[i]'hlt).f1⟩ : S40)] = zi (l.take (i + 1)) := by
      unfold zi
      rw [List.take_succ_eq_append_getElem hlt, List.map_append]
      rfl
    have nx := ih (i + 1) (by omega)
    refine Ev.step (fun k => by rw [impl_bigs.l0, w, e, s]) ?_
    refine ev_pos (by omega) (ev_pos (by omega) (ev_pos (by omega) (ev_pos ?_ nx)))
    rw [zi_len, List.length_take]
    omega
theorem bigs_ev (l : List S29) (hl : l.length ≤ 100000) : Ev (fun k => impl_bigs.f k l) (zi l) := by
  unfold impl_bigs.f
  have := bigs_loop l hl _ 0 (Nat.zero_add _)
  exact this
set_option maxRecDepth 100000 in
set_option maxHeartbeats 4000000 in
theorem implBigs_calls (A : Option Addr) (c : Nat) (l : List S29) (w : World) (hr : Kd.C k29 w A l.length l) (hc : l.length ≤ c) (hl : l.length ≤ 100000) :
    Calls Try.prog 14 #[.slice A l.length c] w fun e w' => ∃ (A' : Option Addr) (c' : Nat), e = .returned (.slice A' l.length c') ∧ Kd.C k40 w' A' (zi l).length (zi l) ∧ Below w.heap.size w w' := by
  obtain ⟨k, hk⟩ := (bigs_ev l hl).rounds
  refine (impl_bigs.calls k A c l (zi l) w hr hc hk).mono ?_
  rintro e w' ⟨v, rfl, ho, d⟩
  obtain ⟨A', c', rfl, _, h2⟩ := Kd.R_reads ho
  exact ⟨A', c', by rw [zi_len], h2, d⟩
set_option maxRecDepth 100000 in
set_option maxHeartbeats 4000000 in
theorem zzComponents_calls (A0 A1 : Option Addr) (c0 c1 : Nat) (l0 l1 : List S40) (n0 n1 : Nat) (w : World) (e0 : n0 = l0.length) (e1 : n1 = l1.length) (h0 : Kd.C k40 w A0 l0.length l0) (h1 : Kd.C k40 w A1 l1.length l1) (hl0 : l0.length ≤ 100000) (hl1 : l1.length ≤ 100000) (hs0 : ∀ x ∈ l0, x.f1.size ≤ 100000) (hs1 : ∀ x ∈ l1, x.f1.size ≤ 100000) :
    Calls Try.prog 13 #[.slice A0 n0 c0, .slice A1 n1 c1] w fun e w' => e = .returned (.int .i64 (padL cI 0 (zsOf l0) (zsOf l1))) ∧ Below w.heap.size w w' := by
  have z0 : Calls Try.prog 16 #[.slice A0 n0 c0] w fun e w' => ∃ (B : Option Addr) (d : Nat), e = .returned (.slice B (zsOf l0).length d) ∧ BRow w' B (zsOf l0) ∧ Below w.heap.size w w' := by
    rw [e0]
    refine (zzBigs_calls A0 c0 l0 w h0 hl0 hs0).mono ?_
    rintro e w' ⟨v, rfl, ho, d⟩
    obtain ⟨B, d', rfl, _, hb⟩ := ho.slice
    exact ⟨B, d', rfl, hb, d⟩
  have z1 : ∀ w' : World, Below w.heap.size w w' → Calls Try.prog 16 #[.slice A1 n1 c1] w' fun e w'' => ∃ (B : Option Addr) (d : Nat), e = .returned (.slice B (zsOf l1).length d) ∧ BRow w'' B (zsOf l1) ∧ Below w'.heap.size w' w'' := fun w' d => by
    rw [e1]
    refine (zzBigs_calls A1 c1 l1 w' (Kd.C_below h1 d) hl1 hs1).mono ?_
    rintro e w'' ⟨v, rfl, ho, d2⟩
    obtain ⟨B, d', rfl, _, hb⟩ := ho.slice
    exact ⟨B, d', rfl, hb, d2⟩
  have la : (zsOf l0).length ≤ 1000000 := by rw [zsOf_len]; omega
  have lb : (zsOf l1).length ≤ 1000000 := by rw [zsOf_len]; omega
  have LA := Aside0.mk la
  have LB := Aside0.mk lb
  clear e0 e1 h0 h1 hl0 hl1 hs0 hs1 la lb
  generalize zsOf l0 = m0 at *
  generalize zsOf l1 = m1 at *
  obtain ⟨q0, eq0⟩ : ∃ q, q = m0.length := ⟨_, rfl⟩
  obtain ⟨q1, eq1⟩ : ∃ q, q = m1.length := ⟨_, rfl⟩
  rw [← eq0] at z0
  rw [← eq1] at z1
  have cm : ∀ (g : Nat) (B0 B1 : Option Addr) (d0 d1 : Nat) (w' : World), w'.cell? ⟨g, 0, none⟩ = some (.slice B0 q0 d0) → BRow w' B0 m0 → BRow w' B1 m1 → Calls Try.prog 17 #[.pointer (some ⟨g, 0, none⟩), .slice B1 q1 d1] w' fun e w'' => e = .returned (.int .i64 (padL cI 0 m0 m1)) ∧ Below w'.heap.size w' w'' := fun g B0 B1 d0 d1 w' hc h0 h1 => by
    rw [eq1]
    rw [eq0] at hc
    exact compCmp_calls g 0 B0 B1 d0 d1 m0 m1 w' hc h0 h1 LA.out LB.out
  clear eq0 eq1
  go_enter Try.func13, Try.ntmps13
  go_wp2_with (first | (go_at_call 16; (with_reducible refine z0.mono ?_); rintro e w1 ⟨B0, d0, rfl, hb0, g1⟩; have HB0 := Aside0.mk hb0; have G1 := Aside0.mk g1; have K4 := Aside0.mk (blk_new w1 (Obj.cells #[.slice B0 q0 d0] 37)); have A4 := Aside0.mk (below_alloc (Below.refl w1.heap.size w1) (Obj.cells #[.slice B0 q0 d0] 37)); clear hb0 g1 z0) | (go_at_call 16; (with_reducible refine (z1 _ ?hd).mono ?_); (case hd => exact below_alloc G1.out _); rintro e w2 ⟨B1, d1, rfl, hb1, g2⟩; have C4 := Aside0.mk (cm w1.heap.size B0 B1 d0 d1 w2 (blk_cell ((g2.block _ (blk_lt K4.out)).trans K4.out) 0) (HB0.out.below (below_then A4.out A4.out.size g2)) hb1); have G2 := Aside0.mk (below_then (below_alloc G1.out (Obj.cells #[.slice B0 q0 d0] 37)) (below_alloc G1.out (Obj.cells #[.slice B0 q0 d0] 37)).size g2); clear hb1 g2 z1) | (go_at_call 17; (with_reducible refine C4.out.mono ?_); rintro e w3 ⟨rfl, g3⟩; have G3 := Aside0.mk (below_then G2.out G2.out.size g3); clear g3))
  go_ret
  exact ⟨rfl, G3.out⟩
/-- Lists that are small enough to be told. -/
def small (l : List S29) : Bool := decide (l.length ≤ 100000) && l.all (fun x => decide (x.f1.size ≤ 100000))
theorem small_len {l : List S29} (h : small l = true) : l.length ≤ 100000 := by
  unfold small at h
  rw [Bool.and_eq_true] at h
  exact of_decide_eq_true h.1
theorem small_all {l : List S29} (h : small l = true) : ∀ x ∈ zi l, x.f1.size ≤ 100000 := by
  unfold small at h
  rw [Bool.and_eq_true, List.all_eq_true] at h
  intro x hx
  unfold zi at hx
  obtain ⟨y, hy, rfl⟩ := List.mem_map.1 hx
  exact of_decide_eq_true (h.2 y hy)
set_option maxRecDepth 100000 in
set_option maxHeartbeats 4000000 in
theorem implNumbers_calls (A0 A1 : Option Addr) (c0 c1 : Nat) (l0 l1 : List S29) (w : World) (h0 : Kd.C k29 w A0 l0.length l0) (h1 : Kd.C k29 w A1 l1.length l1) (hc0 : l0.length ≤ c0) (hc1 : l1.length ≤ c1) (hs0 : small l0 = true) (hs1 : small l1 = true) :
    Calls Try.prog 7 #[.slice A0 l0.length c0, .slice A1 l1.length c1] w fun e w' => e = .returned (.int .i64 (padL cI 0 (zn l0) (zn l1))) ∧ Below w.heap.size w w' := by
  have b0 := implBigs_calls A0 c0 l0 w h0 hc0 (small_len hs0)
  have b1 : ∀ w' : World, Below w.heap.size w w' → _ := fun w' d => implBigs_calls A1 c1 l1 w' (Kd.C_below h1 d) hc1 (small_len hs1)
  have cz : ∀ (B0 B1 : Option Addr) (d0 d1 : Nat) (w' : World), Kd.C k40 w' B0 (zi l0).length (zi l0) → Kd.C k40 w' B1 (zi l1).length (zi l1) → Calls Try.prog 13 #[.slice B0 l0.length d0, .slice B1 l1.length d1] w' fun e w'' => e = .returned (.int .i64 (padL cI 0 (zn l0) (zn l1))) ∧ Below w'.heap.size w' w'' := fun B0 B1 d0 d1 w' h0 h1 => by
    have := zzComponents_calls B0 B1 d0 d1 (zi l0) (zi l1) l0.length l1.length w' (zi_len l0).symm (zi_len l1).symm h0 h1 (by rw [zi_len]; exact small_len hs0) (by rw [zi_len]; exact small_len hs1) (small_all hs0) (small_all hs1)
    rwa [zsOf_zi, zsOf_zi] at this
  clear h0 h1 hc0 hc1 hs0 hs1
  generalize padL cI 0 (zn l0) (zn l1) = V at *
  go_enter Try.func7, Try.ntmps7
  go_wp2_with (first | (go_at_call 14; (with_reducible refine b0.mono ?_); rintro e w1 ⟨B0, d0, rfl, r0, g1⟩; have R0 := Aside0.mk r0; have G1 := Aside0.mk g1; clear r0 g1 b0) | (go_at_call 14; (with_reducible refine (b1 _ G1.out).mono ?_); rintro e w2 ⟨B1, d1, rfl, r1, g2⟩; have C4 := Aside0.mk (cz B0 B1 d0 d1 w2 (Kd.C_below R0.out g2) r1); have G2 := Aside0.mk (below_then G1.out G1.out.size g2); clear r1 g2 b1) | (go_at_call 13; (with_reducible refine C4.out.mono ?_); rintro e w3 ⟨rfl, g3⟩; have G3 := Aside0.mk (below_then G2.out G2.out.size g3); clear g3))
  go_ret
  exact ⟨rfl, G3.out⟩
def impl_CompareNumbers.f (l0 l1 : List S29) : Option Int := if small l0 = true ∧ small l1 = true then some (padL cI 0 (zn l0) (zn l1)) else none
theorem impl_CompareNumbers.calls (A0 : Option Addr) (c0 : Nat) (l0 : List S29) (A1 : Option Addr) (c1 : Nat) (l1 : List S29) (r : Int) (w : World) (hr0 : Kd.C k29 w A0 l0.length l0) (hc0 : l0.length ≤ c0) (hr1 : Kd.C k29 w A1 l1.length l1) (hc1 : l1.length ≤ c1) (h : impl_CompareNumbers.f l0 l1 = some r) :
    Calls Try.prog 7 #[.slice A0 l0.length c0, .slice A1 l1.length c1] w fun e w' => e = .returned (.int .i64 r) ∧ Below w.heap.size w w' := by
  unfold impl_CompareNumbers.f at h
  split at h
  · next hc =>
    obtain rfl := Option.some.inj h
    exact implNumbers_calls A0 A1 c0 c1 l0 l1 w hr0 hr1 hc0 hc1 hc.1 hc.2
  · exact absurd h (by simp)
end Go.Proofs.Ytcaeghgbeldlaaa.Giv
