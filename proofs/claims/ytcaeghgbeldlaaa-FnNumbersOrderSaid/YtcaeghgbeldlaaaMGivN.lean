/- Contracts by hand: whole numbers of any size: what they are in memory, and how two compare. -/
import Derived.Test.YtcaeghgbeldlaaaMPnat
import Derived.BigQuiet
import Derived.LaidEqlPtr
namespace Go.Proofs.Ytcaeghgbeldlaaa.Giv
open Go.RowKit Go.Proofs.YtcaeghgbeldlaaaW.PrintWords Go.Proofs.YtcaeghgbeldlaaaW.PrintLast Go.Proofs.Ytcaeghgbeldlaaa.Pk Go.Proofs.Ytcaeghgbeldlaaa.Ord Go.Proofs.Ytcaeghgbeldlaaa.QM
set_option linter.unusedVariables false
set_option linter.unusedSimpArgs false

/-- The number's words. -/
abbrev wd (z : Int) : List Nat := Dg.dg z.natAbs
/-- What leads to words leads to a block of words. -/
def WordsAt (w : World) (A : Option Addr) : Prop := ∀ a, A = some a → ∃ arr, w.heap[a.block]? = some (.cells arr 58 (0, 0))
/-- At block b lies the number z: its sign and its words. -/
def IsBig (w : World) (b : Nat) (z : Int) : Prop :=
  ∃ A c, w.heap[b]? = some (.cells #[.bool (decide (z < 0)), .slice A (ws (wd z)).length c] 49 (0, 0)) ∧ (ws (wd z)).length ≤ c ∧ (ws (wd z)).length ≤ 1000000 ∧ (Kd.int .u64).C w A (ws (wd z)).length (ws (wd z)) ∧ WordsAt w A
theorem IsBig.lt {w : World} {b : Nat} {z : Int} (h : IsBig w b z) : b < w.heap.size := by
  obtain ⟨A, c, h1, _⟩ := h
  exact (Array.getElem?_eq_some_iff.1 h1).1
theorem IsBig.below {w w' : World} {b : Nat} {z : Int} (h : IsBig w b z) (hb : Below w.heap.size w w') : IsBig w' b z := by
  have hl := h.lt
  obtain ⟨A, c, h1, h3, h4, h5, h6⟩ := h
  exact ⟨A, c, (hb.block b hl).trans h1, h3, h4, Kd.C_below h5 hb, fun a e => by
    obtain ⟨arr, ha⟩ := h6 a e
    exact ⟨arr, blk_below ha hb⟩⟩
theorem IsBig.drewN {w : World} {b : Nat} {z : Int} (h : IsBig w b z) (n : Nat) : IsBig (w.drewN n) b z := h.below (pw_below_drewN (Below.refl _ _) n)
theorem C_inj {w : World} {A : Option Addr} {n : Nat} {l m : List Int} (h : (Kd.int .u64).C w A n l) (h' : (Kd.int .u64).C w A n m) : l = m := by
  have e1 := Kd.C_len h
  have e2 := Kd.C_len h'
  refine List.ext_getElem (by omega) ?_
  intro i hi hi'
  obtain ⟨ad, ea, c1⟩ := Kd.at_int h (i : Int) (by omega) (by omega)
  obtain ⟨ad', ea', c2⟩ := Kd.at_int h' (i : Int) (by omega) (by omega)
  rw [ea] at ea'
  obtain rfl := Option.some.inj ea'
  rw [c1, rd_nat _ _ hi, rd_nat _ _ hi'] at c2
  simpa using c2
theorem ws_inj {l m : List Nat} (h : ws l = ws m) : l = m := by
  unfold ws at h
  have := congrArg (List.map Int.toNat) h
  simpa [List.map_map, Function.comp_def] using this
theorem IsBig.inj {w : World} {b : Nat} {z y : Int} (h : IsBig w b z) (h' : IsBig w b y) : z = y := by
  obtain ⟨A, c, h1, _, _, h5, _⟩ := h
  obtain ⟨A', c', h1', _, _, h5', _⟩ := h'
  rw [h1] at h1'
  have e := Option.some.inj h1'
  injection e with e1 e2 e3
  have e1' := congrArg Array.toList e1
  simp only [List.cons.injEq, Value.bool.injEq, Value.slice.injEq, and_true] at e1'
  obtain ⟨s, rfl, n, rfl⟩ := e1'
  rw [n] at h5
  have l := ws_inj (C_inj h5 h5')
  have v := congrArg Dg.val l
  rw [Dg.val_dg, Dg.val_dg] at v
  have s' : (z < 0) ↔ (y < 0) := by rw [← decide_eq_true_iff (p := z < 0), s, decide_eq_true_iff]
  omega
theorem cmp_val (x y : Int) : cI x y = if x < 0 ∧ y < 0 then - cI x.natAbs y.natAbs else if x < 0 then -1 else if y < 0 then 1 else cI x.natAbs y.natAbs := by
  unfold cI
  repeat' split
  all_goals omega
theorem natcmp_calls (x y : Int) (A0 A1 : Option Addr) (c0 c1 : Nat) (w : World) (h0 : (Kd.int .u64).C w A0 (ws (wd x)).length (ws (wd x))) (h1 : (Kd.int .u64).C w A1 (ws (wd y)).length (ws (wd y))) (hc0 : (ws (wd x)).length ≤ c0) (hc1 : (ws (wd y)).length ≤ c1) (hl : (ws (wd x)).length ≤ 1000000) :
    Calls Try.prog 24 #[.slice A0 (ws (wd x)).length c0, .slice A1 (ws (wd y)).length c1] w fun e w' => e = .returned (.int .i64 (cI x.natAbs y.natAbs)) ∧ Drawn0 w w' := by
  obtain ⟨K, h⟩ := natcmp_ev (wd x) (wd y) (by rw [ws_len] at hl; omega)
  have := bigall_nat_cmp.calls K A0 c0 (ws (wd x)) A1 c1 (ws (wd y)) _ w h0 hc0 h1 hc1 (h K (Nat.le_refl _))
  rwa [Dg.cW_dg] at this
set_option maxHeartbeats 1000000 in
theorem Cmp_calls (x y : Int) (a b : Nat) (w : World) (ha : IsBig w a x) (hb : IsBig w b y) :
    Calls Try.prog 20 #[.pointer (some ⟨a, 0, none⟩), .pointer (some ⟨b, 0, none⟩)] w fun e w' => e = .returned (.int .i64 (cI x y)) ∧ Drawn0 w w' := by
  have hinj := fun h : a = b => IsBig.inj (w := w) (b := b) (h ▸ ha) hb
  obtain ⟨A0, c0, x0, x2, x3, x4, _⟩ := ha
  obtain ⟨A1, c1, y0, y2, y3, y4, _⟩ := hb
  obtain ⟨j, hj, hs⟩ := Option.map_eq_some_iff.1 (show (Try.prog.info? 49).map (fun i => decide (i.size = 2)) = some true by kernel_rfl)
  have hjs : j.size ≠ 0 := by
    have := of_decide_eq_true hs
    omega
  have x00 := (blk_cell x0 0).trans rfl
  have x01 := (blk_cell x0 1).trans rfl
  have y00 := (blk_cell y0 0).trans rfl
  have y01 := (blk_cell y0 1).trans rfl
  go_enter Try.func20, Try.ntmps20
  by_cases hab : a = b
  · obtain rfl := hinj hab
    subst hab
    have he := run_eql_ptr_same (P := Try.prog) w (tp := 41) ⟨a, 0, none⟩ Try.underlying41 hj
    go_wp2_with fail
    go_ret
    exact ⟨by rw [cI_zero.2 rfl]; rfl, Drawn0.refl _⟩
  · have he := run_eql_ptr_other (P := Try.prog) w (tp := 41) (a := ⟨a, 0, none⟩) (b := ⟨b, 0, none⟩) Try.underlying41 hj hjs (fun h => hab (congrArg Addr.block h)) x0 y0
    have cc := fun (w' : World) (hb : Below w.heap.size w w') => natcmp_calls x y A0 A1 c0 c1 w' (Kd.C_below x4 hb) (Kd.C_below y4 hb) x2 y2 x3
    have hv := cmp_val x y
    have wl : wrap64 (-(cI (x.natAbs : Int) (y.natAbs : Int))) = -(cI (x.natAbs : Int) (y.natAbs : Int)) := by
      have := cI_cmp.rng (x.natAbs : Int) (y.natAbs : Int)
      unfold wrap64
      omega
    have dd : ∀ n, Drawn0 w (w.drewN n) := fun n => ⟨n, rfl⟩
    by_cases hx : x < 0
    · rw [decide_eq_true hx] at x00
      by_cases hy : y < 0
      · rw [decide_eq_true hy] at y00
        rw [if_pos ⟨hx, hy⟩] at hv
        go_wp2_with fail
        go_quiet (fail)
        go_wp2_with fail
        go_quiet (first | (go_at_call 24; refine (cc _ (by repeat (first | exact Below.refl _ _ | apply pw_below_drewN | apply below_drew))).mono ?_; rintro e w1 ⟨rfl, n, rfl⟩; (try first | exact ⟨rfl, _, World.drewN_drewN _ _ _⟩ | exact ⟨rfl, _, Eq.trans (World.drewN_drewN _ _ _) (congrArg (World.drewN _) (Nat.add_assoc _ _ _))⟩)))
        go_wp2_with fail
        go_ret
        exact ⟨by rw [hv]; exact congrArg (fun v => Ending.returned (Value.int IntKind.i64 v)) wl, dd _⟩
      · rw [decide_eq_false hy] at y00
        rw [if_neg (fun h => hy h.2), if_pos hx] at hv
        go_wp2_with fail
        go_quiet (fail)
        go_wp2_with fail
        go_ret
        exact ⟨by rw [hv]; rfl, dd _⟩
    · rw [decide_eq_false hx] at x00
      by_cases hy : y < 0
      · rw [decide_eq_true hy] at y00
        rw [if_neg (fun h => hx h.1), if_neg hx, if_pos hy] at hv
        go_wp2_with fail
        go_quiet (fail)
        go_wp2_with fail
        go_ret
        exact ⟨by rw [hv]; rfl, dd _⟩
      · rw [decide_eq_false hy] at y00
        rw [if_neg (fun h => hx h.1), if_neg hx, if_neg hy] at hv
        go_wp2_with fail
        go_quiet (fail)
        go_wp2_with fail
        go_quiet (first | (go_at_call 24; refine (cc _ (by repeat (first | exact Below.refl _ _ | apply pw_below_drewN | apply below_drew))).mono ?_; rintro e w1 ⟨rfl, n, rfl⟩; (try first | exact ⟨rfl, _, World.drewN_drewN _ _ _⟩ | exact ⟨rfl, _, Eq.trans (World.drewN_drewN _ _ _) (congrArg (World.drewN _) (Nat.add_assoc _ _ _))⟩)))
        go_wp2_with fail
        go_ret
        exact ⟨by rw [hv]; rfl, dd _⟩
end Go.Proofs.Ytcaeghgbeldlaaa.Giv
