/- Contracts by hand: the numbers of a CRAN version as plain data. -/
import Derived.Test.YtchbfjjeodnocaaDoorCGivCr
import Derived.Test.YtchbfjjeodnocaaDoorMGivBy
import Derived.Test.YtchbfjjeodnocaaDoorQXx2p
import Derived.Outline
namespace Go.Proofs.YtchbfjjeodnocaaDoor.Giv
open Go.RowKit Go.Proofs.YtchbfjjeodnocaaDoorW.PrintWords Go.Proofs.YtchbfjjeodnocaaDoorW.PrintLast Go.Proofs.YtchbfjjeodnocaaDoor.Pk Go.Proofs.YtchbfjjeodnocaaDoor.Ord
set_option linter.unusedVariables false
set_option linter.unusedSimpArgs false

/-- Numbers as plain data. -/
def pl (zs : List Int) : List QX.S102 := zs.map (fun z => ⟨decide (z < 0), bs (Lb.mag z.natAbs)⟩)
theorem pl_snoc (zs : List Int) (z : Int) : pl (zs ++ [z]) = pl zs ++ [⟨decide (z < 0), bs (Lb.mag z.natAbs)⟩] := by simp [pl]
theorem pl_len (zs : List Int) : (pl zs).length = zs.length := by simp [pl]
theorem pl_info : (Tryd.prog.info? 102).map (fun i => (i.zero, i.size, i.bytes)) = some (some (.agg #[(.bool false), (.string ⟨#[]⟩)]), 2, 24) := by kernel_rfl
set_option maxRecDepth 100000 in
set_option maxHeartbeats 4000000 in
theorem zzPlains_calls (A : Option Addr) (c : Nat) (zs : List Int) (w : World) (h : BRow w A zs) (hl : zs.length ≤ 100000) :
    Calls Tryd.prog 122 #[.slice A zs.length c] w fun e w' => ∃ v0_ : Value, e = .returned v0_ ∧ Kd.R QX.k102 102 w' w.heap.size (fun _ => True) v0_ (pl zs) ∧ Below w.heap.size w w' := by
  go_enter Tryd.func122, Tryd.ntmps122
  go_wp2_with fail
  go_loopw [3, 8] (fun v3 v8 wr => ∃ k : Nat, v8 = .int .i64 k ∧ k ≤ zs.length ∧ Kd.R QX.k102 102 wr w.heap.size (fun _ => True) v3 (pl (zs.take k)) ∧ Below w.heap.size w wr) (fun v3 v8 wr => zs.length - (intOf v8).toNat)
  case atStart => exact ⟨0, rfl, Nat.zero_le _, Kd.R_nil _ _ _ _ _, Below.refl _ _⟩
  case round =>
    obtain ⟨k, rfl, hk, ho, hb⟩ := hrel
    have HO := Aside0.mk ho
    have BL := Aside0.mk hb
    have BS := Aside0.mk hb.size
    by_cases hlt : k < zs.length
    · obtain ⟨ad, p, rfl, hc, hp⟩ := h.at_ k hlt
      have cx := pw_cell_below hb hc
      have f4 : (k : Int) < (zs.length : Int) := Int.ofNat_lt.2 hlt
      have KL := Aside0.mk hlt
      have LIM := Aside0.mk (show ((pl (zs.take k)).length + 1) * 24 ≤ 140737488355328 by rw [pl_len, List.length_take]; omega)
      have NX := Aside0.mk (show pl (zs.take k) ++ [⟨decide (zs[k] < 0), bs (Lb.mag zs[k].natAbs)⟩] = pl (zs.take (k + 1)) by rw [List.take_succ_eq_append_getElem hlt, pl_snoc])
      have wk : wrap64 ((k : Int) + 1) = ((k + 1 : Nat) : Int) := Pk.wr k (by omega)
      have pc := plain_calls _ p _ (hp.below hb)
      generalize zs[k]'hlt = z at *
      clear ho hb h hc hp hlt hk
      go_wp2_with (first | (go_at_call 116; (with_reducible refine pc.mono ?_); rintro e w1 ⟨rfl, d1⟩; have B1 := Aside0.mk (below_then BL.out BS.out d1); have BS1 := Aside0.mk (Nat.le_trans BS.out d1.size); have HO1 := Aside0.mk (Kd.R_below HO.out d1); clear d1) | ((with_reducible refine gate_builtin (b := .append) (xs := #[.tmp 12, .tmp 15]) rfl ?_); at_builtin; refine Kd.R_append QX.k102 (w0 := w) w.heap.size rfl (.tmp 12) (.tmp 15) 116 102 (.agg #[(.bool false), (.string ⟨#[]⟩)]) 24 rfl Tryd.underlying116 pl_info rfl (by decide) (by omega) u3 (pl (zs.take k)) (⟨decide (z < 0), bs (Lb.mag z.natAbs)⟩ : QX.S102) [.bool (decide (z < 0)), .string (bs (Lb.mag z.natAbs))] (fun _ => True) (fun _ => False) rfl (by first | (go_simp; done) | (go_simp; rfl)) ?aP (fun _ hk => hk.elim) ?aF ?aO ?aB ?aS ?aL ?_; (case aP => exact QX.k102_mkM _ _ _ (⟨decide (z < 0), bs (Lb.mag z.natAbs)⟩ : QX.S102)); (case aF => exact (fun _ _ => trivial)); (case aO => exact HO1.out); (case aB => exact B1.out); (case aS => exact BS1.out); (case aL => exact LIM.out); intro v5 w5 ho hb hg hat; have HO := Aside0.mk ho; have BL2 := Aside0.mk hb; clear ho hb hg hat))
      refine ⟨⟨k + 1, by simp, KL.out, by rw [← NX.out]; exact HO.out, BL2.out⟩, by simp only [intOf]; have := KL.out; omega⟩
    · have ek : k = zs.length := by omega
      have f4 : ¬ (k : Int) < (zs.length : Int) := by omega
      rw [ek, List.take_length] at ho
      have HO := Aside0.mk ho
      clear ho hb hk hlt ek
      go_wp2_with fail
      go_ret
      exact ⟨_, rfl, HO.out, BL.out⟩
set_option maxRecDepth 100000 in
theorem cranTold_calls (A : Option Addr) (c : Nat) (zs : List Int) (w : World) (h : BRow w A zs) (hl : zs.length ≤ 100000) :
    Calls Tryd.prog 90 #[.agg #[.slice A zs.length c]] w fun e w' => ∃ v0_ : Value, e = .returned v0_ ∧ Kd.R QX.k102 102 w' w.heap.size (fun _ => True) v0_ (pl zs) ∧ Below w.heap.size w w' := by
  have b1 := below_alloc (Below.refl w.heap.size w) (Obj.cells #[.slice A zs.length c] 110)
  have B1 := Aside0.mk b1
  have zc := zzPlains_calls A c zs _ (h.below b1) hl
  clear b1 h
  go_enter Tryd.func90, Tryd.ntmps90
  go_wp2_with (first | (go_at_call 122; (with_reducible refine zc.mono ?_); rintro e w1 ⟨v, rfl, hr, d1⟩; have D1 := Aside0.mk (below_then B1.out B1.out.size d1); have HR := Aside0.mk (Kd.R_lower hr B1.out.size); clear d1 hr))
  go_ret
  exact ⟨_, rfl, HR.out, D1.out⟩
/-- Numbers as the statements tell them. -/
def pn (zs : List Int) : List QX.S43 := zs.map (fun z => ⟨decide (z < 0), bs (Lb.mag z.natAbs)⟩)
theorem plains_ev (zs : List Int) (hl : zs.length ≤ 100000) (d : Nat) : ∀ i : Nat, i + d = zs.length → Ev (fun k => QX.impl_plains.l0 k (pn (zs.take i)) (pl zs) ((pl zs).length : Int) (i : Int)) (pn zs) := by
  induction d with
  | zero =>
    intro i hi
    refine Ev.step (fun k => by rw [QX.impl_plains.l0]) ?_
    rw [pl_len, List.take_of_length_le (by omega)]
    refine ev_neg (by omega) ?_
    exact Ev.now _
  | succ d ih =>
    intro i hi
    have hlt : i < zs.length := by omega
    have w := wr i (by omega)
    have e : QX.rd_T102 (pl zs) (i : Int) = ⟨decide ((zs[i]'hlt) < 0), bs (Lb.mag (zs[i]'hlt).natAbs)⟩ := by
      unfold QX.rd_T102 pl
      rw [Int.toNat_natCast, List.getD_eq_getElem?_getD, List.getElem?_map, List.getElem?_eq_getElem hlt]
      rfl
    have nx := ih (i + 1) (by omega)
    refine Ev.step (fun k => by rw [QX.impl_plains.l0, w, e]) ?_
    rw [pl_len] at nx ⊢
    refine ev_pos (by omega) (ev_pos (by omega) (ev_pos (by omega) (ev_pos (by unfold pn; rw [List.length_map, List.length_take]; omega) ?_)))
    rw [List.take_succ_eq_append_getElem hlt] at nx
    unfold pn at nx ⊢
    rw [List.map_append] at nx
    exact nx
theorem plains_all (zs : List Int) (hl : zs.length ≤ 100000) : ∃ k, QX.impl_plains.f k (pl zs) = some (pn zs) := Ev.rounds (plains_ev zs hl _ 0 (Nat.zero_add _))
set_option maxRecDepth 100000 in
set_option maxHeartbeats 2000000 in
theorem ip_err (k : Nat) (a : ByteArray) (w : World) (ha : crP k a = some none) (hL : Laid w) :
    Calls Tryd.prog 45 #[.string a] w fun e w' => e = .returned (.tuple #[.slice none 0 0, .bool false]) ∧ Below w.heap.size w w' := by
  have p1 := parse_err k a w ha hL
  clear hL ha
  go_enter Tryd.func45, Tryd.ntmps45
  go_wp2_with (first | (go_at_call 86; (with_reducible refine p1.mono ?_); rintro e w1 ⟨a, rfl, d1⟩; have D1 := Aside0.mk d1; clear d1))
  go_ret2
  exact ⟨rfl, below_alloc D1.out _⟩
set_option maxRecDepth 100000 in
set_option maxHeartbeats 2000000 in
theorem ip_ok (k : Nat) (a : ByteArray) (zs : List Int) (w : World) (ha : crP k a = some (some zs)) (hL : Laid w) :
    Calls Tryd.prog 45 #[.string a] w fun e w' => ∃ v0_ : Value, e = .returned (.tuple #[v0_, .bool true]) ∧ Kd.R QX.k43 43 w' w.heap.size (fun _ => True) v0_ (pn zs) ∧ Below w.heap.size w w' := by
  have p1 := parse_ok k a zs w ha hL
  have l1 := crP_len ha
  obtain ⟨kp, hp⟩ := plains_all zs l1
  have pc := fun (w' : World) (A : Option Addr) (c : Nat) (h : Kd.C QX.k102 w' A (pl zs).length (pl zs)) (hc : (pl zs).length ≤ c) => QX.impl_plains.calls kp A c (pl zs) (pn zs) w' h hc hp
  have tc := fun (w' : World) (A : Option Addr) (c : Nat) (h : BRow w' A zs) => cranTold_calls A c zs w' h l1
  have hnn := fun w => run_nil_nil Tryd.underlying72 w
  clear hL ha l1 hp
  go_enter Tryd.func45, Tryd.ntmps45
  go_wp2_with (first | (go_at_call 86; (with_reducible refine p1.mono ?_); rintro e w1 ⟨A1, c1, rfl, r1, d1⟩; have D1 := Aside0.mk (below_alloc d1 (Obj.cells #[.slice A1 zs.length c1] 110)); have R1 := Aside0.mk (r1.below (below_alloc (Below.refl _ _) (Obj.cells #[.slice A1 zs.length c1] 110))); clear d1 r1) | (go_at_call 90; (with_reducible refine (tc _ _ _ R1.out).mono ?_); rintro e w2 ⟨v2, rfl, r2, d2⟩; obtain ⟨A2, c2, rfl, hc2, hr2⟩ := Kd.R_reads r2; have D2 := Aside0.mk (below_then D1.out D1.out.size d2); have R2 := Aside0.mk hr2; have C2 := Aside0.mk hc2; clear d2 r2 hr2 hc2) | (go_at_call 89; (with_reducible refine (pc _ _ _ R2.out C2.out).mono ?_); rintro e w3 ⟨v3, rfl, r3, d3⟩; have D3 := Aside0.mk (below_then D2.out D2.out.size d3); have R3 := Aside0.mk (Kd.R_lower r3 D2.out.size); clear d3 r3))
  go_ret2
  exact ⟨_, rfl, R3.out, D3.out⟩
/-- What impl.CRANParse answers. -/
def ipR (x : Option (List Int)) : List QX.S43 × Bool := match x with
  | some zs => (pn zs, true)
  | none => ([], false)
def impl_CRANParse.f (k : Nat) (a0 : ByteArray) : Option (List QX.S43 × Bool) := (crP k a0).bind fun x => some (ipR x)
theorem impl_CRANParse.mono : ∀ a0 k, LeO (impl_CRANParse.f k a0) (impl_CRANParse.f (k + 1) a0) := by
  intro a k
  unfold impl_CRANParse.f
  exact LeO.bind (crP_mono _ _) (fun _ => LeO.refl _)
theorem impl_CRANParse.calls (k : Nat) (a0 : ByteArray) (r1 : List QX.S43) (r2 : Bool) (w : World) (h : impl_CRANParse.f k a0 = some (r1, r2)) (hL : Laid w) :
    Calls Tryd.prog 45 #[.string a0] w fun e w' => ∃ v0_ : Value, e = .returned (.tuple #[v0_, .bool r2]) ∧ Kd.R QX.k43 43 w' w.heap.size (fun _ => True) v0_ r1 ∧ Below w.heap.size w w' := by
  unfold impl_CRANParse.f at h
  obtain ⟨x, hx, h⟩ := Option.bind_eq_some_iff.1 h
  cases x with
  | none =>
    have h := Option.some.inj h
    obtain ⟨rfl, rfl⟩ := Prod.mk.inj h
    exact (ip_err k a0 w hx hL).mono (by rintro e w' ⟨rfl, hb⟩; exact ⟨_, rfl, Kd.R_nil _ _ _ _ _, hb⟩)
  | some zs =>
    have h := Option.some.inj h
    obtain ⟨rfl, rfl⟩ := Prod.mk.inj h
    exact ip_ok k a0 zs w hx hL
end Go.Proofs.YtchbfjjeodnocaaDoor.Giv
