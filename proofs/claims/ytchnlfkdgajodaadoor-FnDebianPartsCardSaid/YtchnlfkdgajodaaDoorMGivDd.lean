/- Contract by hand: compareDebianVersions, where both texts' bytes are below 128 and none is 0. -/
import Derived.Test.YtchnlfkdgajodaaDoorMGivDc
namespace Go.Proofs.YtchnlfkdgajodaaDoor.Giv
open Go.RowKit Go.Proofs.YtchnlfkdgajodaaDoorW.PrintWords Go.Proofs.YtchnlfkdgajodaaDoorW.PrintLast Go.Proofs.YtchnlfkdgajodaaDoor.Pk Go.Proofs.YtchnlfkdgajodaaDoor.Ord Go.Proofs.YtchnlfkdgajodaaDoor.QM
set_option linter.unusedVariables false
set_option linter.unusedSimpArgs false

theorem debFetch_f (l : List ByteArray) (k : Nat) (z : ByteArray) : QF.semantic_fetch.f l (k : Int) z = some (l.getD k z) := by
  unfold QF.semantic_fetch.f
  by_cases h : k < l.length
  · rw [if_neg (by omega)]
    first
      | rw [if_pos (by omega), if_pos (by omega)]
      | rw [if_pos (by omega)]
    rw [rdOf_nat _ _ k h, List.getD_eq_getElem?_getD, List.getElem?_eq_getElem h]
    rfl
  · rw [if_pos (by omega), List.getD_eq_getElem?_getD, List.getElem?_eq_none (by omega)]
    rfl
/-- A byte as a text, or none. -/
def oneAt : Option UInt8 → ByteArray
  | none => ⟨#[]⟩
  | some c => bs [c]
theorem ones_getD (l : List UInt8) (k : Nat) : (ones l).getD k ⟨#[]⟩ = oneAt l[k]? := by
  unfold ones
  rw [List.getD_eq_getElem?_getD, List.getElem?_map]
  cases l[k]? <;> rfl
theorem weigh_f (o : Option UInt8) (h : ∀ c, o = some c → c.toNat < 128) : QW.semantic_weighDebianChar.f (oneAt o) = some (Deb.iw o) := by
  unfold QW.semantic_weighDebianChar.f
  cases o with
  | none =>
    have e : (oneAt none).toList = ([] : List UInt8) := by unfold oneAt; rw [toList_eq']
    rw [e, if_neg (by simp), if_pos rfl]
    rfl
  | some c =>
    have hc := h c rfl
    have e : (oneAt (some c)).toList = [c] := bs_toList _
    have sz : (oneAt (some c)).size = 1 := by rw [← len_toList, e]; rfl
    have b : bt (oneAt (some c)) 0 = (c.toNat : Int) := bs_bt0 c []
    have w1 : wrap64 (c.toNat : Int) = (c.toNat : Int) := by unfold wrap64; omega
    have w2 : wrap64 ((c.toNat : Int) + 122) = (c.toNat : Int) + 122 := by unfold wrap64; omega
    have i1 : ([c] = ([126] : List UInt8)) ↔ c.toNat = 126 := by
      rw [List.cons.injEq, ← UInt8.toNat_inj]
      simp
    rw [e, sz, b, w1, w2]
    rw [show Deb.iw (some c) = Deb.iwB c from rfl]
    unfold Deb.iwB
    by_cases h1 : c.toNat = 126
    · rw [if_pos (i1.2 h1), if_pos h1]
    · rw [if_neg (fun x => h1 (i1.1 x)), if_neg h1, if_neg (by simp), if_pos (by decide)]
      repeat' split
      all_goals first | rfl | (exfalso; omega)
/-- Split at nothing: a row of texts of one byte. -/
theorem splitE_row (l : List UInt8) (h : okB l = true) (w : World) :
    Calls Tryd.prog 24 #[.string (bs l), .string ⟨#[]⟩] w fun e w' => ∃ (A : Option Addr) (c : Nat), e = .returned (.slice A (ones l).length c) ∧ Kd.C Kd.string w' A (ones l).length (ones l) ∧ (ones l).length ≤ c ∧ Below w.heap.size w w' := by
  refine (splitE_calls (bs l) (asc_bs h) (by rw [bs_size]; have := okB_len h; omega) w).mono ?_
  rintro e w' ⟨v, rfl, ho, d⟩
  rw [bs_toList] at ho
  obtain ⟨A, c, rfl, h1, h2⟩ := Kd.R_reads ho
  exact ⟨A, c, rfl, h2, h1, d⟩
def szOf : Value → Nat
  | .string s => s.size
  | _ => 0
theorem debZero {x y : List UInt8} (hp : Deb.nd x = Deb.nd y) (hz : cI (Num.dec (Deb.dg x)) (Num.dec (Deb.dg y)) = 0) : Deb.debC x y = Deb.debC (Deb.rest x) (Deb.rest y) := by
  rw [Deb.debC_step, if_pos (Deb.ndC_zero.2 hp), if_pos hz]
theorem debNum {x y : List UInt8} (hp : Deb.nd x = Deb.nd y) (hz : ¬ cI (Num.dec (Deb.dg x)) (Num.dec (Deb.dg y)) = 0) : Deb.debC x y = cI (Num.dec (Deb.dg x)) (Num.dec (Deb.dg y)) := by
  rw [Deb.debC_step, if_pos (Deb.ndC_zero.2 hp), if_neg hz]
theorem debNon {x y : List UInt8} (hp : ¬ Deb.nd x = Deb.nd y) : Deb.debC x y = Deb.ndC (Deb.nd x) (Deb.nd y) := by
  rw [Deb.debC_step, if_neg (fun e => hp (Deb.ndC_zero.1 e))]
theorem rest_le (l : List UInt8) : (Deb.rest l).length ≤ l.length := (rest_sub l).length_le
theorem rest_less {x y : List UInt8} (h : ¬ (x = [] ∧ y = [])) : (Deb.rest x).length + (Deb.rest y).length < x.length + y.length := by
  have h1 := rest_le x
  have h2 := rest_le y
  by_cases hx : x = []
  · have := Deb.rest_lt (l := y) (fun e => h ⟨hx, e⟩)
    omega
  · have := Deb.rest_lt hx
    omega
theorem okB_at {l : List UInt8} (h : okB l = true) (k : Nat) (c : UInt8) (e : l[k]? = some c) : c.toNat < 128 ∧ c.toNat ≠ 0 := by
  obtain ⟨hk, rfl⟩ := List.getElem?_eq_some_iff.1 e
  exact okB_mem h _ (List.getElem_mem hk)
/-- The digits of what is left behind a part without digits. -/
theorem splitDg_calls (l : List UInt8) (w : World) (h : okB l = true) (hL : Laid w) :
    Calls Tryd.prog 27 #[.string (bs (Deb.nr l))] w fun e w' => ∃ b, e = .returned (.tuple #[.pointer (some ⟨b, 0, none⟩), .string (bs (Deb.rest l)), .nilIface]) ∧ IsBig w' b (Num.dec (Deb.dg l)) ∧ Below w.heap.size w w' := by
  have hn := okB_sub h (nr_sub l)
  have := splitDig_calls (bs (Deb.nr l)) w (asc_bs hn) (by rw [bs_size]; exact okB_len hn) hL
  rwa [bs_toList] at this
set_option maxHeartbeats 8000000 in
set_option maxRecDepth 100000 in
theorem debComp_calls (a b : List UInt8) (w : World) (ha : okB a = true) (hb : okB b = true) (hL : Laid w) :
    Calls Tryd.prog 20 #[.string (bs a), .string (bs b)] w fun e w' => e = .returned (.tuple #[.int .i64 (Deb.debC a b), .nilIface]) ∧ Below w.heap.size w w' := by
  have HL := Aside0.mk hL
  obtain ⟨D, eD⟩ : ∃ D, D = Deb.debC a b := ⟨_, rfl⟩
  rw [← eD]
  clear hL
  go_enter Tryd.func20, Tryd.ntmps20
  go_wp2_with fail
  go_loopw [0, 1] (fun v0 v1 wr => ∃ x y : List UInt8, v0 = .string (bs x) ∧ v1 = .string (bs y) ∧ okB x = true ∧ okB y = true ∧ Deb.debC x y = D ∧ Below w.heap.size w wr) (fun v0 v1 wr => szOf v0 + szOf v1)
  case atStart => exact ⟨a, b, rfl, rfl, ha, hb, eD.symm, Below.refl _ _⟩
  case round =>
    obtain ⟨x, y, rfl, rfl, hx, hy, hD, hbw⟩ := hrel
    clear ha hb eD
    have BL := Aside0.mk hbw
    have BS := Aside0.mk hbw.size
    clear hbw
    by_cases hemp : x = [] ∧ y = []
    · obtain ⟨rfl, rfl⟩ := hemp
      have f1 : (bs []).toList.isEmpty = true := by rw [bs_toList]; rfl
      have HD := Aside0.mk hD
      clear hD hx hy
      go_wp2_with fail
      exact bodyPost_ret (results_list (rs := [.tmp 4, .tmp 5]) rfl (by simp) (.tmp (.tmp .nil))) rfl ⟨by rw [← HD.out]; rfl, BL.out⟩
    · have sA := fun w' => splitNon_calls x w' hx
      have sB := fun w' => splitNon_calls y w' hy
      have hpq : (bs x).toList.isEmpty = false ∨ (bs x).toList.isEmpty = true ∧ (bs y).toList.isEmpty = false := by
        rw [bs_toList, bs_toList]
        cases x with
        | cons c r => exact .inl rfl
        | nil =>
          cases y with
          | nil => exact absurd ⟨rfl, rfl⟩ hemp
          | cons c r => exact .inr ⟨rfl, rfl⟩
      have RL := Aside0.mk (rest_less hemp)
      clear hemp
      by_cases hp : Deb.nd x = Deb.nd y
      · have dA := fun (w' : World) (hb' : Below w.heap.size w w') => splitDg_calls x w' hx (HL.out.below hb')
        have dB := fun (w' : World) (hb' : Below w.heap.size w w') => splitDg_calls y w' hy (HL.out.below hb')
        have HX := Aside0.mk (okB_sub hx (rest_sub x))
        have HY := Aside0.mk (okB_sub hy (rest_sub y))
        have cm := fun b1 b2 w' (h1 : IsBig w' b1 (Num.dec (Deb.dg x))) (h2 : IsBig w' b2 (Num.dec (Deb.dg y))) => Cmp_calls _ _ b1 b2 w' h1 h2
        by_cases hz : cI (Num.dec (Deb.dg x)) (Num.dec (Deb.dg y)) = 0
        · have HD := Aside0.mk ((debZero hp hz).symm.trans hD)
          rw [hz] at cm
          rw [hp] at sA
          clear hD hx hy hp hz
          rcases hpq with f8 | ⟨f8, f9⟩
          all_goals
            go_wp2_with (first | (go_at_call 23; (with_reducible refine (sA _).mono ?_); rintro e w1 ⟨rfl, d1⟩; have BL1 := Aside0.mk (below_then BL.out BS.out d1); have BS1 := Aside0.mk (Nat.le_trans BS.out d1.size); clear d1 sA) | (go_at_call 23; (with_reducible refine (sB _).mono ?_); rintro e w2 ⟨rfl, d2⟩; have BL2 := Aside0.mk (below_then BL1.out BS1.out d2); have BS2 := Aside0.mk (Nat.le_trans BS1.out d2.size); clear d2 sB) | (go_at_call 27; (with_reducible refine (dA _ BL2.out).mono ?_); rintro e w3 ⟨b3, rfl, q3, d3⟩; have BL3 := Aside0.mk (below_then BL2.out BS2.out d3); have BS3 := Aside0.mk (Nat.le_trans BS2.out d3.size); have Q3 := Aside0.mk q3; clear d3 q3 dA) | (go_at_call 27; (with_reducible refine (dB _ BL3.out).mono ?_); rintro e w4 ⟨b4, rfl, q4, d4⟩; have BL4 := Aside0.mk (below_then BL3.out BS3.out d4); have BS4 := Aside0.mk (Nat.le_trans BS3.out d4.size); have Q5 := Aside0.mk (Q3.out.below d4); have Q4 := Aside0.mk q4; clear d4 q4 dB) | (go_at_call 28; (with_reducible refine (cm _ _ _ Q5.out Q4.out).mono ?_); rintro e w5 ⟨rfl, d5⟩; have BL5 := Aside0.mk (below_then BL4.out BS4.out d5.below); clear d5))
            go_roundw
            case rel => exact ⟨_, _, rfl, rfl, HX.out, HY.out, HD.out, BL5.out⟩
            case measure =>
              have := RL.out
              simp only [szOf, bs_size]
              omega
        · have HD := Aside0.mk ((debNum hp hz).symm.trans hD)
          have nz : (cI (Num.dec (Deb.dg x)) (Num.dec (Deb.dg y)) != 0) = true := bne_iff_ne.2 hz
          rw [hp] at sA
          clear hD hx hy hp hz
          rcases hpq with f8 | ⟨f8, f9⟩
          all_goals
            go_wp2_with (first | (go_at_call 23; (with_reducible refine (sA _).mono ?_); rintro e w1 ⟨rfl, d1⟩; have BL1 := Aside0.mk (below_then BL.out BS.out d1); have BS1 := Aside0.mk (Nat.le_trans BS.out d1.size); clear d1 sA) | (go_at_call 23; (with_reducible refine (sB _).mono ?_); rintro e w2 ⟨rfl, d2⟩; have BL2 := Aside0.mk (below_then BL1.out BS1.out d2); have BS2 := Aside0.mk (Nat.le_trans BS1.out d2.size); clear d2 sB) | (go_at_call 27; (with_reducible refine (dA _ BL2.out).mono ?_); rintro e w3 ⟨b3, rfl, q3, d3⟩; have BL3 := Aside0.mk (below_then BL2.out BS2.out d3); have BS3 := Aside0.mk (Nat.le_trans BS2.out d3.size); have Q3 := Aside0.mk q3; clear d3 q3 dA) | (go_at_call 27; (with_reducible refine (dB _ BL3.out).mono ?_); rintro e w4 ⟨b4, rfl, q4, d4⟩; have BL4 := Aside0.mk (below_then BL3.out BS3.out d4); have BS4 := Aside0.mk (Nat.le_trans BS3.out d4.size); have Q5 := Aside0.mk (Q3.out.below d4); have Q4 := Aside0.mk q4; clear d4 q4 dB) | (go_at_call 28; (with_reducible refine (cm _ _ _ Q5.out Q4.out).mono ?_); rintro e w5 ⟨rfl, d5⟩; have BL5 := Aside0.mk (below_then BL4.out BS4.out d5.below); clear d5))
            exact bodyPost_ret (results_list (rs := [.tmp 4, .tmp 5]) rfl (by simp) (.tmp (.tmp .nil))) rfl ⟨by rw [← HD.out]; rfl, BL5.out⟩
      · have HD := Aside0.mk ((debNon hp).symm.trans hD)
        have hkx := okB_sub hx (nd_sub x)
        have hky := okB_sub hy (nd_sub y)
        obtain ⟨p, ep⟩ : ∃ p, p = Deb.nd x := ⟨_, rfl⟩
        obtain ⟨q, eq⟩ : ∃ q, q = Deb.nd y := ⟨_, rfl⟩
        rw [← ep, ← eq] at hp HD
        rw [← ep] at sA hkx
        rw [← eq] at sB hky
        have zA := fun w' => splitE_row p hkx w'
        have zB := fun w' => splitE_row q hky w'
        obtain ⟨la, ea⟩ : ∃ la, la = ones p := ⟨_, rfl⟩
        obtain ⟨lb, eb⟩ : ∃ lb, lb = ones q := ⟨_, rfl⟩
        have ga : ∀ k : Nat, la.getD k ⟨#[]⟩ = oneAt p[k]? := by rw [ea]; exact ones_getD p
        have gb : ∀ k : Nat, lb.getD k ⟨#[]⟩ = oneAt q[k]? := by rw [eb]; exact ones_getD q
        rw [← ea] at zA
        rw [← eb] at zB
        clear ea eb ep eq hx hy hD RL
        obtain ⟨n, en⟩ : ∃ n, n = max p.length q.length := ⟨_, rfl⟩
        have hmx : (bs q).size = n ∧ (bs p).size < n ∨ (bs p).size = n ∧ ¬ n < (bs q).size := by rw [bs_size, bs_size]; omega
        have lp := okB_len hkx
        have lq := okB_len hky
        have hn : n ≤ 40000 := by omega
        have ne : ((bs p).toList == (bs q).toList) = false := by rw [bs_toList, bs_toList]; exact beq_eq_false_iff_ne.2 hp
        have NE := Aside0.mk hp
        have EN := Aside0.mk en
        have HKX := Aside0.mk hkx
        have HKY := Aside0.mk hky
        clear en lp lq hp hkx hky
        rcases hpq with f8 | ⟨f8, f9⟩ <;> rcases hmx with ⟨hs, hs2⟩ | ⟨hs, hs2⟩
        all_goals
          go_wp2_with (first | (go_at_call 23; (with_reducible refine (sA _).mono ?_); rintro e w1 ⟨rfl, d1⟩; have BL1 := Aside0.mk (below_then BL.out BS.out d1); have BS1 := Aside0.mk (Nat.le_trans BS.out d1.size); clear d1 sA) | (go_at_call 23; (with_reducible refine (sB _).mono ?_); rintro e w2 ⟨rfl, d2⟩; have BL2 := Aside0.mk (below_then BL1.out BS1.out d2); have BS2 := Aside0.mk (Nat.le_trans BS1.out d2.size); clear d2 sB) | (go_at_call 24; (with_reducible refine (zA _).mono ?_); rintro e w3 ⟨A3, c3, rfl, r3, l3, d3⟩; have BL3 := Aside0.mk (below_then BL2.out BS2.out d3); have BS3 := Aside0.mk (Nat.le_trans BS2.out d3.size); have R3 := Aside0.mk r3; have L3 := Aside0.mk l3; clear d3 r3 l3 zA) | (go_at_call 24; (with_reducible refine (zB _).mono ?_); rintro e w4 ⟨A4, c4, rfl, r4, l4, d4⟩; have BL4 := Aside0.mk (below_then BL3.out BS3.out d4); have BS4 := Aside0.mk (Nat.le_trans BS3.out d4.size); have R5 := Aside0.mk (Kd.C_below R3.out d4); have R4 := Aside0.mk r4; have L4 := Aside0.mk l4; clear d4 r4 l4 zB))
          obtain ⟨wo, rfl⟩ : ∃ wo : World, wo = wr := ⟨_, rfl⟩
          go_loopw [45] (fun v45 wi => ∃ i : Nat, v45 = .int .i64 i ∧ i ≤ n ∧ p.take i = q.take i ∧ Below w.heap.size w wi ∧ Below w4.heap.size w4 wi) (fun v45 wi => n - (intOf v45).toNat)
          case atStart => exact ⟨0, rfl, Nat.zero_le _, rfl, BL4.out, Below.refl _ _⟩
          case round =>
            obtain ⟨i, rfl, hi, htk, hbi, hb4⟩ := hrel
            have BI := Aside0.mk hbi
            have BJ := Aside0.mk hbi.size
            have B4 := Aside0.mk hb4
            clear hbi hb4
            by_cases hlt : i < n
            · have fa := fun (w' : World) (hb' : Below w4.heap.size w4 w') => QF.semantic_fetch.calls A3 c3 la (i : Int) ⟨#[]⟩ (oneAt p[i]?) w' (Kd.C_below R5.out hb') L3.out (by rw [debFetch_f, ga])
              have fb := fun (w' : World) (hb' : Below w4.heap.size w4 w') => QF.semantic_fetch.calls A4 c4 lb (i : Int) ⟨#[]⟩ (oneAt q[i]?) w' (Kd.C_below R4.out hb') L4.out (by rw [debFetch_f, gb])
              have wa := fun w' => QW.semantic_weighDebianChar.calls (oneAt p[i]?) _ w' (weigh_f p[i]? (fun c e => (okB_at HKX.out i c e).1))
              have wb := fun w' => QW.semantic_weighDebianChar.calls (oneAt q[i]?) _ w' (weigh_f q[i]? (fun c e => (okB_at HKY.out i c e).1))
              have iwc := Deb.iw_cmp (x := p[i]?) (y := q[i]?) (fun c e => (okB_at HKX.out i c e).2) (fun c e => (okB_at HKY.out i c e).2)
              have nat_ := Deb.ndC_at i p q htk
              have nx : p[i]? = q[i]? → p.take (i + 1) = q.take (i + 1) := fun e => by rw [List.take_add_one, List.take_add_one, htk, e]
              have wz : Deb.wC p[i]? q[i]? = 0 → p[i]? = q[i]? := fun e => Deb.wt_inj (cI_zero.1 e)
              obtain ⟨ta, eta⟩ : ∃ ta, ta = oneAt p[i]? := ⟨_, rfl⟩
              obtain ⟨tb, etb⟩ : ∃ tb, tb = oneAt q[i]? := ⟨_, rfl⟩
              obtain ⟨u, eu⟩ : ∃ u, u = Deb.iw p[i]? := ⟨_, rfl⟩
              obtain ⟨v, ev⟩ : ∃ v, v = Deb.iw q[i]? := ⟨_, rfl⟩
              rw [← eta] at fa wa
              rw [← etb] at fb wb
              rw [← eu] at wa iwc
              rw [← ev] at wb iwc
              have wk : wrap64 ((i : Int) + 1) = ((i + 1 : Nat) : Int) := Pk.wr i (by omega)
              have g4 : (i : Int) < (n : Int) := Int.ofNat_lt.2 hlt
              clear eta etb eu ev htk hi
              rcases Int.lt_trichotomy u v with hc | hc | hc
              · have c1 := cI_neg.2 hc
                rw [iwc] at c1
                have ST := Aside0.mk (HD.out.symm.trans ((nat_ (fun e => by rw [e, Deb.wC_cmp.self] at c1; exact absurd c1 (by decide))).trans c1))
                clear c1 iwc nat_ nx wz
                go_wp2_with (first | (go_at_call 26; (with_reducible refine (fa _ B4.out).mono ?_); rintro e w5 ⟨rfl, d5⟩; have BI1 := Aside0.mk (below_then BI.out BJ.out d5.below); have BJ1 := Aside0.mk (Nat.le_trans BJ.out d5.below.size); have B5 := Aside0.mk (below_then B4.out B4.out.size d5.below); clear d5 fa) | (go_at_call 25; (with_reducible refine (wa _).mono ?_); rintro e w6 ⟨rfl, d6⟩; have BI2 := Aside0.mk (below_then BI1.out BJ1.out d6.below); have BJ2 := Aside0.mk (Nat.le_trans BJ1.out d6.below.size); have B6 := Aside0.mk (below_then B5.out B5.out.size d6.below); clear d6 wa) | (go_at_call 26; (with_reducible refine (fb _ B6.out).mono ?_); rintro e w7 ⟨rfl, d7⟩; have BI3 := Aside0.mk (below_then BI2.out BJ2.out d7.below); have BJ3 := Aside0.mk (Nat.le_trans BJ2.out d7.below.size); have B7 := Aside0.mk (below_then B6.out B6.out.size d7.below); clear d7 fb) | (go_at_call 25; (with_reducible refine (wb _).mono ?_); rintro e w8 ⟨rfl, d8⟩; have BI4 := Aside0.mk (below_then BI3.out BJ3.out d8.below); have B8 := Aside0.mk (below_then B7.out B7.out.size d8.below); clear d8 wb))
                exact bodyPost_ret (results_list (rs := [.tmp 4, .tmp 5]) rfl (by simp) (.tmp (.tmp .nil))) rfl ⟨by rw [ST.out]; rfl, BI4.out⟩
              · subst hc
                have c1 : cI u u = 0 := cI_zero.2 rfl
                rw [iwc] at c1
                have NX := Aside0.mk (nx (wz c1))
                have kn : i + 1 ≤ n := hlt
                have hc2 : ¬ u < u := Int.lt_irrefl u
                clear c1 iwc nat_ nx wz
                go_wp2_with (first | (go_at_call 26; (with_reducible refine (fa _ B4.out).mono ?_); rintro e w5 ⟨rfl, d5⟩; have BI1 := Aside0.mk (below_then BI.out BJ.out d5.below); have BJ1 := Aside0.mk (Nat.le_trans BJ.out d5.below.size); have B5 := Aside0.mk (below_then B4.out B4.out.size d5.below); clear d5 fa) | (go_at_call 25; (with_reducible refine (wa _).mono ?_); rintro e w6 ⟨rfl, d6⟩; have BI2 := Aside0.mk (below_then BI1.out BJ1.out d6.below); have BJ2 := Aside0.mk (Nat.le_trans BJ1.out d6.below.size); have B6 := Aside0.mk (below_then B5.out B5.out.size d6.below); clear d6 wa) | (go_at_call 26; (with_reducible refine (fb _ B6.out).mono ?_); rintro e w7 ⟨rfl, d7⟩; have BI3 := Aside0.mk (below_then BI2.out BJ2.out d7.below); have BJ3 := Aside0.mk (Nat.le_trans BJ2.out d7.below.size); have B7 := Aside0.mk (below_then B6.out B6.out.size d7.below); clear d7 fb) | (go_at_call 25; (with_reducible refine (wb _).mono ?_); rintro e w8 ⟨rfl, d8⟩; have BI4 := Aside0.mk (below_then BI3.out BJ3.out d8.below); have B8 := Aside0.mk (below_then B7.out B7.out.size d8.below); clear d8 wb))
                go_roundw
                case rel => exact ⟨i + 1, rfl, kn, NX.out, BI4.out, B8.out⟩
                case measure =>
                  simp only [intOf]
                  omega
              · have c1 := cI_pos.2 hc
                rw [iwc] at c1
                have hc2 : ¬ u < v := by omega
                have ST := Aside0.mk (HD.out.symm.trans ((nat_ (fun e => by rw [e, Deb.wC_cmp.self] at c1; exact absurd c1 (by decide))).trans c1))
                clear c1 iwc nat_ nx wz
                go_wp2_with (first | (go_at_call 26; (with_reducible refine (fa _ B4.out).mono ?_); rintro e w5 ⟨rfl, d5⟩; have BI1 := Aside0.mk (below_then BI.out BJ.out d5.below); have BJ1 := Aside0.mk (Nat.le_trans BJ.out d5.below.size); have B5 := Aside0.mk (below_then B4.out B4.out.size d5.below); clear d5 fa) | (go_at_call 25; (with_reducible refine (wa _).mono ?_); rintro e w6 ⟨rfl, d6⟩; have BI2 := Aside0.mk (below_then BI1.out BJ1.out d6.below); have BJ2 := Aside0.mk (Nat.le_trans BJ1.out d6.below.size); have B6 := Aside0.mk (below_then B5.out B5.out.size d6.below); clear d6 wa) | (go_at_call 26; (with_reducible refine (fb _ B6.out).mono ?_); rintro e w7 ⟨rfl, d7⟩; have BI3 := Aside0.mk (below_then BI2.out BJ2.out d7.below); have BJ3 := Aside0.mk (Nat.le_trans BJ2.out d7.below.size); have B7 := Aside0.mk (below_then B6.out B6.out.size d7.below); clear d7 fb) | (go_at_call 25; (with_reducible refine (wb _).mono ?_); rintro e w8 ⟨rfl, d8⟩; have BI4 := Aside0.mk (below_then BI3.out BJ3.out d8.below); have B8 := Aside0.mk (below_then B7.out B7.out.size d8.below); clear d8 wb))
                exact bodyPost_ret (results_list (rs := [.tmp 4, .tmp 5]) rfl (by simp) (.tmp (.tmp .nil))) rfl ⟨by rw [ST.out]; rfl, BI4.out⟩
            · refine absurd ?_ NE.out
              have en := EN.out
              have a1 : p.take i = p := List.take_of_length_le (by omega)
              have a2 : q.take i = q := List.take_of_length_le (by omega)
              rw [← a1, ← a2]
              exact htk
end Go.Proofs.YtchnlfkdgajodaaDoor.Giv
