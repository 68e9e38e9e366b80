/- Contracts by hand: two versions of Packagist compared, given by their components, all of them numbers of at most 18 digits. -/
import Derived.Test.YtmbgkdklgdkikaaDoorZC
import Derived.Test.YtmbgkdklgdkikaaDoorGivIf
import Derived.Test.YtmbgkdklgdkikaaDoorShelf
import Derived.Test.YtmbgkdklgdkikaaDoorZA
import Derived.Lib.Atoi
import Derived.Outline
namespace Go.Proofs.YtmbgkdklgdkikaaDoor.Giv
open Go.RowKit Go.Proofs.YtmbgkdklgdkikaaDoorW.PrintWords Go.Proofs.YtmbgkdklgdkikaaDoorW.PrintLast Go.Proofs.YtmbgkdklgdkikaaDoor.Pk Go.Proofs.YtmbgkdklgdkikaaDoor.Ord
set_option linter.unusedVariables false
set_option linter.unusedSimpArgs false

/-- A component that is a number of at most 18 digits. -/
def NumS (s : ByteArray) : Prop := s.size ≤ 18 ∧ Num.digits s.toList = true
theorem NumS.signed {s : ByteArray} (h : NumS s) : Seg.signed s.toList = false := by
  have hd := h.2
  cases hl : s.toList with
  | nil => rfl
  | cons c r =>
    rw [hl] at hd
    unfold Num.digits at hd
    rw [Bool.and_eq_true, List.all_cons, Bool.and_eq_true] at hd
    have h2 := of_decide_eq_true hd.2.1
    have n1 : ¬ c.toNat = 45 := by omega
    have n2 : ¬ c.toNat = 43 := by omega
    unfold Seg.signed
    simp [n1, n2]
theorem NumS.parse {s : ByteArray} (h : NumS s) : Num.parse s.toList = some (Num.dec s.toList : Int) := by
  rw [Seg.parse_plain h.signed, if_pos h.2]
theorem decFrom_some : ∀ (l : List UInt8) (a : Nat), l.all Rpm.dig = true → ∃ n, Lib.decFrom a l = some n
  | [], a, _ => ⟨a, rfl⟩
  | c :: r, a, h => by
    rw [List.all_cons, Bool.and_eq_true] at h
    have h2 := of_decide_eq_true h.1
    obtain ⟨n, hn⟩ := decFrom_some r (a * 10 + (c.toNat - 48)) h.2
    refine ⟨n, ?_⟩
    unfold Lib.decFrom Lib.digitVal
    rw [if_pos (by omega)]
    exact hn
theorem NumS.atoi {s : ByteArray} (h : NumS s) : ∃ n, Lib.atoi s.data.toList = some n := by
  have hd := h.2
  rw [Lib.toList_data] at hd
  unfold Num.digits at hd
  rw [Bool.and_eq_true] at hd
  have hs := h.signed
  rw [Lib.toList_data] at hs
  cases hl : s.data.toList with
  | nil => rw [hl] at hd; exact absurd hd.1 (by simp)
  | cons c r =>
    rw [hl] at hd
    obtain ⟨n, hn⟩ := decFrom_some (c :: r) 0 hd.2
    have h2 := of_decide_eq_true (show decide (48 ≤ c.toNat ∧ c.toNat ≤ 57) = true by
      have := hd.2
      rw [List.all_cons, Bool.and_eq_true] at this
      have h3 := of_decide_eq_true this.1
      exact decide_eq_true (by omega))
    have n1 : (c == 45) = false := by
      rw [beq_eq_false_iff_ne]
      intro e
      rw [e] at h2
      exact absurd h2.1 (by decide)
    have n2 : (c == 43) = false := by
      rw [beq_eq_false_iff_ne]
      intro e
      rw [e] at h2
      exact absurd h2.1 (by decide)
    refine ⟨(n : Int), ?_⟩
    unfold Lib.atoi
    simp only [n1, n2]
    unfold Lib.decNat
    rw [hn]
    rfl
theorem atoi_calls {s : ByteArray} (h : NumS s) (w : World) :
    Calls Tryd.prog 26 #[.string s] w fun e w' => ∃ n : Int, e = .returned (.tuple #[.int .i64 n, .nilIface]) ∧ Below w.heap.size w w' := by
  obtain ⟨n, hn⟩ := h.atoi
  refine (Tryd.strconv_Atoi s n h.1 hn w).mono ?_
  rintro e w' ⟨rfl, t, rfl⟩
  exact ⟨n, rfl, bytes_below (Below.refl _ _) (Nat.le_refl _) _ _⟩
/-- Components compared as numbers, one after the other; more of them are greater. -/
def nmC (s t : ByteArray) : Int := cI (Num.dec s.toList : Int) (Num.dec t.toList : Int)
theorem lo_drop {α : Type} (c : α → α → Int) (a b : List α) (k : Nat) (ha : k < a.length) (hb : k < b.length) : lexL c (a.drop k) (b.drop k) = if c (a[k]'ha) (b[k]'hb) = 0 then lexL c (a.drop (k + 1)) (b.drop (k + 1)) else c (a[k]'ha) (b[k]'hb) := by
  rw [List.drop_eq_getElem_cons ha, List.drop_eq_getElem_cons hb]
  rfl
theorem lo_end {α : Type} (c : α → α → Int) (a b : List α) (k : Nat) (h : k = min a.length b.length) : lexL c (a.drop k) (b.drop k) = cI a.length b.length := by
  rcases Nat.lt_trichotomy a.length b.length with h1 | h1 | h1
  · rw [List.drop_eq_nil_of_le (by omega), List.drop_eq_getElem_cons (by omega : k < b.length), cI_neg.2 (by omega)]
    rfl
  · rw [List.drop_eq_nil_of_le (by omega), List.drop_eq_nil_of_le (by omega), cI_zero.2 (by omega)]
    rfl
  · have eb : b.drop k = [] := List.drop_eq_nil_of_le (by omega)
    rw [eb, List.drop_eq_getElem_cons (by omega : k < a.length), cI_pos.2 (by omega)]
    rfl
theorem pm_lt {n k : Nat} (h : k + 1 ≤ n) : n - (intOf (Value.int IntKind.i64 ((k + 1 : Nat) : Int))).toNat < n - (intOf (Value.int IntKind.i64 (k : Int))).toNat := by
  show n - (((k + 1 : Nat) : Int)).toNat < n - ((k : Nat) : Int).toNat
  rw [Int.toNat_natCast, Int.toNat_natCast]
  exact Nat.sub_lt_sub_left h (Nat.lt_succ_self k)
set_option maxRecDepth 100000 in
set_option maxHeartbeats 4000000 in
theorem pack_calls (a b : List ByteArray) (A0 A1 : Option Addr) (n0 n1 c0 c1 : Nat) (e0 : n0 = a.length) (e1 : n1 = b.length) (w : World) (hr0 : Kd.C Kd.string w A0 a.length a) (hr1 : Kd.C Kd.string w A1 b.length b) (ha : ∀ s ∈ a, NumS s) (hb : ∀ s ∈ b, NumS s) (la : a.length ≤ 1000) (lb : b.length ≤ 1000) (hL : Laid w) :
    Calls Tryd.prog 22 #[.slice A0 n0 c0, .slice A1 n1 c1] w fun e w' => e = .returned (.int .i64 (lexL nmC a b)) ∧ Below w.heap.size w w' := by
  have HR0 := Aside0.mk hr0
  have HR1 := Aside0.mk hr1
  have HL := Aside0.mk hL
  have HA := Aside0.mk ha
  have HB := Aside0.mk hb
  have E0 := Aside0.mk e0
  have E1 := Aside0.mk e1
  obtain ⟨n, en⟩ : ∃ n, n = min n0 n1 := ⟨_, rfl⟩
  have EN := Aside0.mk en
  have mx : min (n0 : Int) (n1 : Int) = (n : Int) := by omega
  have N0 := Aside0.mk (show n0 ≤ 1000 by omega)
  have N1 := Aside0.mk (show n1 ≤ 1000 by omega)
  clear hr0 hr1 hL ha hb la lb en e0 e1
  go_enter Tryd.func22, Tryd.ntmps22
  go_wp2_with fail
  clear mx
  go_loopw [6, 24] (fun v6 v24 wr => ∃ k : Nat, v6 = .int .i64 0 ∧ v24 = .int .i64 k ∧ k ≤ n ∧ Below w.heap.size w wr ∧ lexL nmC (a.drop k) (b.drop k) = lexL nmC a b) (fun v6 v24 wr => n - (intOf v24).toNat)
  case atStart => exact ⟨0, rfl, rfl, Nat.zero_le _, Below.refl _ _, rfl⟩
  case round =>
    obtain ⟨k, rfl, rfl, hk, hbw, hlex⟩ := hrel
    have BL0 := Aside0.mk hbw
    by_cases hlt : k < n
    · have ka : k < a.length := by have := EN.out; have := E0.out; omega
      have kb : k < b.length := by have := EN.out; have := E1.out; omega
      have st := lo_drop nmC a b k ka kb
      rw [hlex] at st
      obtain ⟨adx, rfl, cx0⟩ := Kd.at_string HR0.out (k : Int) (by omega) (by omega)
      obtain ⟨ady, rfl, cy0⟩ := Kd.at_string HR1.out (k : Int) (by omega) (by omega)
      rw [rdOf_nat _ _ k ka, Int.toNat_natCast] at cx0
      rw [rdOf_nat _ _ k kb, Int.toNat_natCast] at cy0
      have nx := HA.out _ (List.getElem_mem ka)
      have ny := HB.out _ (List.getElem_mem kb)
      generalize a[k]'ka = x at *
      generalize b[k]'kb = y at *
      have cellX := Aside0.mk (show ∀ w', Below w.heap.size w w' → w'.cell? (adx.add k) = some (.string x) from fun w' h => pw_cell_below h cx0)
      have cellY := Aside0.mk (show ∀ w', Below w.heap.size w w' → w'.cell? (ady.add k) = some (.string y) from fun w' h => pw_cell_below h cy0)
      have xc0 := cellX.out _ hbw
      have wk : wrap64 ((k : Int) + 1) = ((k + 1 : Nat) : Int) := Pk.wr k (by have := N0.out; have := EN.out; omega)
      have f4 : (k : Int) < (n : Int) := Int.ofNat_lt.2 hlt
      have f5 : (k : Int) < (n0 : Int) := by have := EN.out; omega
      have f6 : (k : Int) < (n1 : Int) := by have := EN.out; omega
      have kn : k + 1 ≤ n := hlt
      have cx := Aside0.mk (fun (w' : World) (hb' : Below w.heap.size w w') => conv_some x w' _ (by have := nx.1; omega) (HL.out.below hb') nx.parse)
      have cy := Aside0.mk (fun (w' : World) (hb' : Below w.heap.size w w') => conv_some y w' _ (by have := ny.1; omega) (HL.out.below hb') ny.parse)
      have cm := fun b1 b2 w' (h1 : IsBig w' b1 (Num.dec x.toList : Int)) (h2 : IsBig w' b2 (Num.dec y.toList : Int)) => Cmp_calls _ _ b1 b2 w' h1 h2
      have ez : cI (Num.dec x.toList : Int) (Num.dec y.toList : Int) = nmC x y := rfl
      rw [ez] at cm
      have hnn := fun w => run_nil_nil Tryd.underlying48 w
      clear hlex hbw hlt cx0 cy0 nx ny ez
      have KN := Aside0.mk kn
      have HK := Aside0.mk hk
      clear kn hk ka kb
      rcases cI_cmp.rng (Num.dec x.toList : Int) (Num.dec y.toList : Int) with hz | hz | hz
      · replace hz : nmC x y = -1 := hz
        rw [hz] at st cm
        rw [if_neg (by decide)] at st
        have ST := Aside0.mk st
        clear st hz
        go_wp2_with (first | (go_at_call 23; (with_reducible refine (cx.out _ BL0.out).mono ?_); rintro e w1 ⟨bx, rfl, q1, d1⟩; have BL1 := Aside0.mk (below_then BL0.out BL0.out.size d1); have D1 := Aside0.mk d1; have Q1 := Aside0.mk q1; clear d1 q1; have yc1 := cellY.out _ BL1.out) | (go_at_call 23; (with_reducible refine (cy.out _ BL1.out).mono ?_); rintro e w2 ⟨by_, rfl, q2, d2⟩; have BL2 := Aside0.mk (below_then BL1.out BL1.out.size d2); have Q2 := Aside0.mk q2; have Q3 := Aside0.mk (Q1.out.below d2); clear d2 q2) | (go_at_call 24; (with_reducible refine (cm _ _ _ Q3.out Q2.out).mono ?_); rintro e w3 ⟨rfl, d3⟩; have BL3 := Aside0.mk (below_then BL2.out BL2.out.size d3.below); clear d3))
        go_ret
        exact ⟨by rw [ST.out]; rfl, BL3.out⟩
      · replace hz : nmC x y = 0 := hz
        rw [hz] at st cm
        rw [if_pos rfl] at st
        have ST := Aside0.mk st
        clear st hz
        go_wp2_with (first | (go_at_call 23; (with_reducible refine (cx.out _ BL0.out).mono ?_); rintro e w1 ⟨bx, rfl, q1, d1⟩; have BL1 := Aside0.mk (below_then BL0.out BL0.out.size d1); have D1 := Aside0.mk d1; have Q1 := Aside0.mk q1; clear d1 q1; have yc1 := cellY.out _ BL1.out) | (go_at_call 23; (with_reducible refine (cy.out _ BL1.out).mono ?_); rintro e w2 ⟨by_, rfl, q2, d2⟩; have BL2 := Aside0.mk (below_then BL1.out BL1.out.size d2); have Q2 := Aside0.mk q2; have Q3 := Aside0.mk (Q1.out.below d2); clear d2 q2) | (go_at_call 24; (with_reducible refine (cm _ _ _ Q3.out Q2.out).mono ?_); rintro e w3 ⟨rfl, d3⟩; have BL3 := Aside0.mk (below_then BL2.out BL2.out.size d3.below); clear d3))
        go_roundw
        case rel => exact ⟨k + 1, rfl, by rw [wk], KN.out, BL3.out, ST.out.symm⟩
        case measure =>
          rw [wk]
          exact pm_lt KN.out
      · replace hz : nmC x y = 1 := hz
        rw [hz] at st cm
        rw [if_neg (by decide)] at st
        have ST := Aside0.mk st
        clear st hz
        go_wp2_with (first | (go_at_call 23; (with_reducible refine (cx.out _ BL0.out).mono ?_); rintro e w1 ⟨bx, rfl, q1, d1⟩; have BL1 := Aside0.mk (below_then BL0.out BL0.out.size d1); have D1 := Aside0.mk d1; have Q1 := Aside0.mk q1; clear d1 q1; have yc1 := cellY.out _ BL1.out) | (go_at_call 23; (with_reducible refine (cy.out _ BL1.out).mono ?_); rintro e w2 ⟨by_, rfl, q2, d2⟩; have BL2 := Aside0.mk (below_then BL1.out BL1.out.size d2); have Q2 := Aside0.mk q2; have Q3 := Aside0.mk (Q1.out.below d2); clear d2 q2) | (go_at_call 24; (with_reducible refine (cm _ _ _ Q3.out Q2.out).mono ?_); rintro e w3 ⟨rfl, d3⟩; have BL3 := Aside0.mk (below_then BL2.out BL2.out.size d3.below); clear d3))
        go_ret
        exact ⟨by rw [ST.out]; rfl, BL3.out⟩
    · have ek : k = n := by omega
      have fin := lo_end nmC a b k (by have := EN.out; have := E0.out; have := E1.out; omega)
      rw [hlex] at fin
      have FIN := Aside0.mk fin
      have f4 : ¬ (k : Int) < (n : Int) := by omega
      have hnn := fun w => run_nil_nil Tryd.underlying48 w
      clear hlex hbw hlt fin hk
      rcases Nat.lt_trichotomy n0 n1 with h1 | h1 | h1
      · have hn : k = n0 := by have := EN.out; omega
        have g1 : ¬ (n1 : Int) < (n0 : Int) := by omega
        have g2 : (n0 : Int) < (n1 : Int) := by omega
        have lb : n0 < b.length := by have := E1.out; omega
        obtain ⟨ady, rfl, cy0⟩ := Kd.at_string HR1.out (n0 : Int) (by omega) (by omega)
        rw [rdOf_nat _ _ n0 lb, Int.toNat_natCast] at cy0
        have ny := HB.out _ (List.getElem_mem lb)
        have yc := pw_cell_below BL0.out cy0
        have AT := Aside0.mk (fun w' => atoi_calls ny w')
        have RES := Aside0.mk (show lexL nmC a b = -1 by rw [FIN.out]; exact cI_neg.2 (by have := E0.out; have := E1.out; omega))
        clear cy0 ny h1 hn ek
        generalize b[n0]'lb = y at *
        go_wp2_with (first | (go_at_call 26; (with_reducible refine (AT.out _).mono ?_); rintro e w1 ⟨z, rfl, d1⟩; have BL1 := Aside0.mk (below_then BL0.out BL0.out.size d1); clear d1))
        go_ret
        exact ⟨by rw [RES.out]; rfl, BL1.out⟩
      · subst h1
        have g1 : ¬ (n0 : Int) < (n0 : Int) := by omega
        have RES := Aside0.mk (show lexL nmC a b = 0 by rw [FIN.out]; exact cI_zero.2 (by have := E0.out; have := E1.out; omega))
        go_wp2_with fail
        go_ret
        exact ⟨by rw [RES.out]; rfl, BL0.out⟩
      · have hn : k = n1 := by have := EN.out; omega
        have g1 : (n1 : Int) < (n0 : Int) := by omega
        have la : n1 < a.length := by have := E0.out; omega
        obtain ⟨adx, rfl, cx0⟩ := Kd.at_string HR0.out (n1 : Int) (by omega) (by omega)
        rw [rdOf_nat _ _ n1 la, Int.toNat_natCast] at cx0
        have nx := HA.out _ (List.getElem_mem la)
        have xc := pw_cell_below BL0.out cx0
        have AT := Aside0.mk (fun w' => atoi_calls nx w')
        have RES := Aside0.mk (show lexL nmC a b = 1 by rw [FIN.out]; exact cI_pos.2 (by have := E0.out; have := E1.out; omega))
        clear cx0 nx h1 hn ek
        generalize a[n1]'la = x at *
        go_wp2_with (first | (go_at_call 26; (with_reducible refine (AT.out _).mono ?_); rintro e w1 ⟨z, rfl, d1⟩; have BL1 := Aside0.mk (below_then BL0.out BL0.out.size d1); clear d1))
        go_ret
        exact ⟨by rw [RES.out]; rfl, BL1.out⟩
/-- ZZPackagist and impl.PackagistCompare answer what comparePackagistComponents does. -/
theorem implPack_calls (a b : List ByteArray) (A0 A1 : Option Addr) (n0 n1 c0 c1 : Nat) (e0 : n0 = a.length) (e1 : n1 = b.length) (w : World) (hr0 : Kd.C Kd.string w A0 a.length a) (hr1 : Kd.C Kd.string w A1 b.length b) (ha : ∀ s ∈ a, NumS s) (hb : ∀ s ∈ b, NumS s) (la : a.length ≤ 1000) (lb : b.length ≤ 1000) (hL : Laid w) :
    Calls Tryd.prog 9 #[.slice A0 n0 c0, .slice A1 n1 c1] w fun e w' => e = .returned (.int .i64 (lexL nmC a b)) ∧ Below w.heap.size w w' := by
  have c1' : Calls Tryd.prog 17 #[.slice A0 n0 c0, .slice A1 n1 c1] w fun e w' => e = .returned (.int .i64 (lexL nmC a b)) ∧ Below w.heap.size w w' := by
    have c2 := pack_calls a b A0 A1 n0 n1 c0 c1 e0 e1 w hr0 hr1 ha hb la lb hL
    clear e0 e1 hr0 hr1 ha hb la lb hL
    go_enter Tryd.func17, Tryd.ntmps17
    go_wp2_with (first | (go_at_call 22; (with_reducible refine c2.mono ?_); rintro e w1 ⟨rfl, d1⟩; have D1 := Aside0.mk d1; clear d1))
    go_ret
    exact ⟨rfl, D1.out⟩
  clear e0 e1 hr0 hr1 ha hb la lb hL
  go_enter Tryd.func9, Tryd.ntmps9
  go_wp2_with (first | (go_at_call 17; (with_reducible refine c1'.mono ?_); rintro e w1 ⟨rfl, d1⟩; have D1 := Aside0.mk d1; clear d1))
  go_ret
  exact ⟨rfl, D1.out⟩
end Go.Proofs.YtmbgkdklgdkikaaDoor.Giv
