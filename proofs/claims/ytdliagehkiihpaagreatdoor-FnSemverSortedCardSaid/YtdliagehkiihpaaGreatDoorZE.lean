/- Lists of texts, as bytes.
   Contracts by hand: lists of identifiers of versions like those of SemVer compared.
   The contracts by hand in the print's form: segments and identifiers compared. The errors are laid. -/
import Derived.Test.YtdliagehkiihpaaGreatDoorZD
import Derived.Test.YtdliagehkiihpaaGreatDoorZA
import Derived.Test.YtdliagehkiihpaaGreatDoorZC
import Derived.Test.YtdliagehkiihpaaGreatDoorShelf
namespace Go.Proofs.YtdliagehkiihpaaGreatDoor.Giv
open Go.RowKit Go.Proofs.YtdliagehkiihpaaGreatDoorW.PrintWords Go.Proofs.YtdliagehkiihpaaGreatDoorW.PrintLast Go.Proofs.YtdliagehkiihpaaGreatDoor.Pk Go.Proofs.YtdliagehkiihpaaGreatDoor.Ord
set_option linter.unusedVariables false
set_option linter.unusedSimpArgs false

/-- A list of texts, as bytes. -/
def tl (l : List ByteArray) : List (List UInt8) := l.map ByteArray.toList
theorem tl_len (l : List ByteArray) : (tl l).length = l.length := by simp [tl]
/-- Texts short enough to be read as numbers. -/
def fit (l : List ByteArray) : Bool := decide (l.length ≤ 100000) && l.all (fun x => decide (x.size ≤ 40000))
theorem fit_len {l : List ByteArray} (h : fit l = true) : l.length ≤ 100000 := by
  unfold fit at h
  rw [Bool.and_eq_true] at h
  exact of_decide_eq_true h.1
theorem fit_at {l : List ByteArray} (h : fit l = true) (k : Nat) {z : ByteArray} (hz : z.size ≤ 40000) : (l.getD k z).size ≤ 40000 := by
  unfold fit at h
  rw [Bool.and_eq_true, List.all_eq_true] at h
  rw [List.getD_eq_getElem?_getD]
  cases hk : l[k]? with
  | none => exact hz
  | some x =>
    have := h.2 x (List.mem_of_getElem? hk)
    simpa using this
theorem z48 : (⟨#[48]⟩ : ByteArray).size ≤ 40000 := by
  show 1 ≤ 40000
  omega
end Go.Proofs.YtdliagehkiihpaaGreatDoor.Giv

namespace Go.Proofs.YtdliagehkiihpaaGreatDoor.Giv
open Go.RowKit Go.Proofs.YtdliagehkiihpaaGreatDoorW.PrintWords Go.Proofs.YtdliagehkiihpaaGreatDoorW.PrintLast Go.Proofs.YtdliagehkiihpaaGreatDoor.Pk Go.Proofs.YtdliagehkiihpaaGreatDoor.Ord
set_option linter.unusedVariables false
set_option linter.unusedSimpArgs false

theorem lex_drop {α : Type} (c : α → α → Int) (a b : List α) (k : Nat) (ha : k < a.length) (hb : k < b.length) : lexL c (a.drop k) (b.drop k) = if c (a[k]'ha) (b[k]'hb) = 0 then lexL c (a.drop (k + 1)) (b.drop (k + 1)) else c (a[k]'ha) (b[k]'hb) := by
  rw [List.drop_eq_getElem_cons ha, List.drop_eq_getElem_cons hb]
  rfl
theorem lex_end {α : Type} (c : α → α → Int) (a b : List α) (k : Nat) (h : k = min a.length b.length) : lexL c (a.drop k) (b.drop k) = cI a.length b.length := by
  rcases Nat.lt_trichotomy a.length b.length with h1 | h1 | h1
  · rw [List.drop_eq_nil_of_le (by omega), List.drop_eq_getElem_cons (by omega : k < b.length), cI_neg.2 (by omega)]
    rfl
  · rw [List.drop_eq_nil_of_le (by omega), List.drop_eq_nil_of_le (by omega), cI_zero.2 (by omega)]
    rfl
  · have eb : b.drop k = [] := List.drop_eq_nil_of_le (by omega)
    rw [eb, List.drop_eq_getElem_cons (by omega : k < a.length), cI_pos.2 (by omega)]
    rfl
theorem fit_get {l : List ByteArray} (h : fit l = true) (k : Nat) (hk : k < l.length) : (l[k]'hk).size ≤ 40000 := by
  have := fit_at h k (z := ⟨#[48]⟩) z48
  rw [List.getD_eq_getElem?_getD, List.getElem?_eq_getElem hk] at this
  exact this
set_option maxRecDepth 100000 in
set_option maxHeartbeats 4000000 in
theorem semver_calls (a b : List ByteArray) (A0 A1 : Option Addr) (c0 c1 : Nat) (w : World) (hr0 : Kd.C Kd.string w A0 a.length a) (hc0 : a.length ≤ c0) (hr1 : Kd.C Kd.string w A1 b.length b) (hc1 : b.length ≤ c1) (ha : fit a = true) (hb : fit b = true) (hL : Laid w) :
    Calls Tryz.prog 50 #[.slice A0 a.length c0, .slice A1 b.length c1] w fun e w' => e = .returned (.int .i64 (lexL Seg.idC (tl a) (tl b))) ∧ Below w.heap.size w w' := by
  have HR0 := Aside0.mk hr0
  have HR1 := Aside0.mk hr1
  have HL := Aside0.mk hL
  have la := fit_len ha
  have lb := fit_len hb
  obtain ⟨n, en⟩ : ∃ n, n = min a.length b.length := ⟨_, rfl⟩
  have EN := Aside0.mk en
  have mx : min (a.length : Int) (b.length : Int) = (n : Int) := by omega
  have hn : n ≤ 100000 := by omega
  clear hr0 hr1 hL en
  go_enter Tryz.func50, Tryz.ntmps50
  go_wp2_with fail
  clear mx
  go_loopw [18] (fun v18 wr => ∃ k : Nat, v18 = .int .i64 k ∧ k ≤ n ∧ Below w.heap.size w wr ∧ lexL Seg.idC ((tl a).drop k) ((tl b).drop k) = lexL Seg.idC (tl a) (tl b)) (fun v18 wr => n - (intOf v18).toNat)
  case atStart => exact ⟨0, rfl, Nat.zero_le _, Below.refl _ _, rfl⟩
  case round =>
    obtain ⟨k, rfl, hk, hbw, hlex⟩ := hrel
    have BL0 := Aside0.mk hbw
    have BS0 := Aside0.mk hbw.size
    by_cases hlt : k < n
    · have ka : k < a.length := by have := EN.out; omega
      have kb : k < b.length := by have := EN.out; omega
      have st := lex_drop Seg.idC (tl a) (tl b) k (by rw [tl_len]; exact ka) (by rw [tl_len]; exact kb)
      rw [hlex] at st
      have EP : Aside0 (lexL Seg.idC (tl a) (tl b) = lexL Seg.idC (tl a) (tl b)) := Aside0.mk rfl
      have hxs := fit_get ha k ka
      have hys := fit_get hb k kb
      obtain ⟨adx, rfl, cx0⟩ := Kd.at_string HR0.out (k : Int) (by omega) (by omega)
      obtain ⟨ady, rfl, cy0⟩ := Kd.at_string HR1.out (k : Int) (by omega) (by omega)
      rw [rdOf_nat _ _ k ka, Int.toNat_natCast] at cx0
      rw [rdOf_nat _ _ k kb, Int.toNat_natCast] at cy0
      obtain ⟨x, ex⟩ : ∃ x, x = a[k]'ka := ⟨_, rfl⟩
      obtain ⟨y, ey⟩ : ∃ y, y = b[k]'kb := ⟨_, rfl⟩
      rw [← ex] at hxs cx0
      rw [← ey] at hys cy0
      have gx : (tl a)[k]'(by rw [tl_len]; exact ka) = x.toList := by rw [ex]; simp [tl]
      have gy : (tl b)[k]'(by rw [tl_len]; exact kb) = y.toList := by rw [ey]; simp [tl]
      rw [gx, gy] at st
      have cellX := Aside0.mk (show ∀ w', Below w.heap.size w w' → w'.cell? (adx.add k) = some (.string x) from fun w' h => pw_cell_below h cx0)
      have cellY := Aside0.mk (show ∀ w', Below w.heap.size w w' → w'.cell? (ady.add k) = some (.string y) from fun w' h => pw_cell_below h cy0)
      have xc0 := cellX.out _ hbw
      have wk : wrap64 ((k : Int) + 1) = ((k + 1 : Nat) : Int) := Pk.wr k (by omega)
      have f4 : (k : Int) < (n : Int) := Int.ofNat_lt.2 hlt
      have f5 : (k : Int) < (a.length : Int) := Int.ofNat_lt.2 ka
      have f6 : (k : Int) < (b.length : Int) := Int.ofNat_lt.2 kb
      have kn : k + 1 ≤ n := hlt
      clear ex ey hlex hbw ha hb hlt la lb hn gx gy cx0 cy0
      have cm := fun p q b1 b2 w' (h1 : IsBig w' b1 p) (h2 : IsBig w' b2 q) => Cmp_calls p q b1 b2 w' h1 h2
      cases hp : Num.parse x.toList with
      | some p =>
        have cx := fun (w' : World) (hb' : Below w.heap.size w w') => conv_some x w' p hxs (HL.out.below hb') hp
        cases hq : Num.parse y.toList with
        | some q =>
          have cy := fun (w' : World) (hb' : Below w.heap.size w w') => conv_some y w' q hys (HL.out.below hb') hq
          rw [Seg.idC_nn hp hq] at st
          have cm0 := fun b1 b2 w' h1 h2 => cm p q b1 b2 w' h1 h2
          clear cm
          rcases cI_cmp.rng p q with hz | hz | hz
          · rw [hz] at st cm0
            clear hz
            rw [if_neg (by decide)] at st
            have ST := Aside0.mk (EP.out.trans st)
            clear st hp hq
            go_wp2_with (first | (go_at_call 70; (with_reducible refine (cx _ BL0.out).mono ?_); rintro e w1 ⟨bx, rfl, q1, d1⟩; have BL1 := Aside0.mk (below_then BL0.out BS0.out d1); have BS1 := Aside0.mk (Nat.le_trans BS0.out d1.size); have D1 := Aside0.mk d1; have Q1 := Aside0.mk q1; clear d1 q1; have yc1 := cellY.out _ BL1.out) | (go_at_call 70; (with_reducible refine (cy _ BL1.out).mono ?_); rintro e w2 ⟨by_, rfl, q2, d2⟩; have BL2 := Aside0.mk (below_then BL1.out BS1.out d2); have BS2 := Aside0.mk (Nat.le_trans BS1.out d2.size); have D2 := Aside0.mk d2; have Q2 := Aside0.mk q2; clear d2 q2; have xc2 := cellX.out _ BL2.out; have yc2 := cellY.out _ BL2.out) | (go_at_call 71; (with_reducible refine (cm0 _ _ _ (Q1.out.below D2.out) Q2.out).mono ?_); rintro e w3 ⟨rfl, d3⟩; have BL3 := Aside0.mk (below_then BL2.out BS2.out d3.below); clear d3))
            go_ret
            exact ⟨by rw [ST.out]; rfl, BL3.out⟩
          · rw [hz] at st cm0
            clear hz
            rw [if_pos (by decide)] at st
            have ST := Aside0.mk st
            clear st hp hq
            go_wp2_with (first | (go_at_call 70; (with_reducible refine (cx _ BL0.out).mono ?_); rintro e w1 ⟨bx, rfl, q1, d1⟩; have BL1 := Aside0.mk (below_then BL0.out BS0.out d1); have BS1 := Aside0.mk (Nat.le_trans BS0.out d1.size); have D1 := Aside0.mk d1; have Q1 := Aside0.mk q1; clear d1 q1; have yc1 := cellY.out _ BL1.out) | (go_at_call 70; (with_reducible refine (cy _ BL1.out).mono ?_); rintro e w2 ⟨by_, rfl, q2, d2⟩; have BL2 := Aside0.mk (below_then BL1.out BS1.out d2); have BS2 := Aside0.mk (Nat.le_trans BS1.out d2.size); have D2 := Aside0.mk d2; have Q2 := Aside0.mk q2; clear d2 q2; have xc2 := cellX.out _ BL2.out; have yc2 := cellY.out _ BL2.out) | (go_at_call 71; (with_reducible refine (cm0 _ _ _ (Q1.out.below D2.out) Q2.out).mono ?_); rintro e w3 ⟨rfl, d3⟩; have BL3 := Aside0.mk (below_then BL2.out BS2.out d3.below); clear d3))
            rw [wk]
            exact ⟨⟨k + 1, rfl, kn, BL3.out, ST.out.symm⟩, by simp only [intOf]; omega⟩
          · rw [hz] at st cm0
            clear hz
            rw [if_neg (by decide)] at st
            have ST := Aside0.mk (EP.out.trans st)
            clear st hp hq
            go_wp2_with (first | (go_at_call 70; (with_reducible refine (cx _ BL0.out).mono ?_); rintro e w1 ⟨bx, rfl, q1, d1⟩; have BL1 := Aside0.mk (below_then BL0.out BS0.out d1); have BS1 := Aside0.mk (Nat.le_trans BS0.out d1.size); have D1 := Aside0.mk d1; have Q1 := Aside0.mk q1; clear d1 q1; have yc1 := cellY.out _ BL1.out) | (go_at_call 70; (with_reducible refine (cy _ BL1.out).mono ?_); rintro e w2 ⟨by_, rfl, q2, d2⟩; have BL2 := Aside0.mk (below_then BL1.out BS1.out d2); have BS2 := Aside0.mk (Nat.le_trans BS1.out d2.size); have D2 := Aside0.mk d2; have Q2 := Aside0.mk q2; clear d2 q2; have xc2 := cellX.out _ BL2.out; have yc2 := cellY.out _ BL2.out) | (go_at_call 71; (with_reducible refine (cm0 _ _ _ (Q1.out.below D2.out) Q2.out).mono ?_); rintro e w3 ⟨rfl, d3⟩; have BL3 := Aside0.mk (below_then BL2.out BS2.out d3.below); clear d3))
            go_ret
            exact ⟨by rw [ST.out]; rfl, BL3.out⟩
        | none =>
          have cy := fun (w' : World) (hb' : Below w.heap.size w w') => conv_none y w' hys (HL.out.below hb') hq
          rw [Seg.idC_nt hp hq] at st
          clear cm
          rw [if_neg (by decide)] at st
          have ST := Aside0.mk (EP.out.trans st)
          clear st hp hq
          go_wp2_with (first | (go_at_call 70; (with_reducible refine (cx _ BL0.out).mono ?_); rintro e w1 ⟨bx, rfl, q1, d1⟩; have BL1 := Aside0.mk (below_then BL0.out BS0.out d1); have BS1 := Aside0.mk (Nat.le_trans BS0.out d1.size); have D1 := Aside0.mk d1; have Q1 := Aside0.mk q1; clear d1 q1; have yc1 := cellY.out _ BL1.out) | (go_at_call 70; (with_reducible refine (cy _ BL1.out).mono ?_); rintro e w2 ⟨er2, rfl, d2⟩; have BL2 := Aside0.mk (below_then BL1.out BS1.out d2); have BS2 := Aside0.mk (Nat.le_trans BS1.out d2.size); clear d2; have xc2 := cellX.out _ BL2.out; have yc2 := cellY.out _ BL2.out))
          go_ret
          exact ⟨by rw [ST.out]; rfl, BL2.out⟩
      | none =>
        have cx := fun (w' : World) (hb' : Below w.heap.size w w') => conv_none x w' hxs (HL.out.below hb') hp
        clear cm
        cases hq : Num.parse y.toList with
        | some q =>
          have cy := fun (w' : World) (hb' : Below w.heap.size w w') => conv_some y w' q hys (HL.out.below hb') hq
          rw [Seg.idC_tn hp hq] at st
          rw [if_neg (by decide)] at st
          have ST := Aside0.mk (EP.out.trans st)
          clear st hp hq
          go_wp2_with (first | (go_at_call 70; (with_reducible refine (cx _ BL0.out).mono ?_); rintro e w1 ⟨er1, rfl, d1⟩; have BL1 := Aside0.mk (below_then BL0.out BS0.out d1); have BS1 := Aside0.mk (Nat.le_trans BS0.out d1.size); clear d1; have yc1 := cellY.out _ BL1.out) | (go_at_call 70; (with_reducible refine (cy _ BL1.out).mono ?_); rintro e w2 ⟨by_, rfl, q2, d2⟩; have BL2 := Aside0.mk (below_then BL1.out BS1.out d2); have BS2 := Aside0.mk (Nat.le_trans BS1.out d2.size); have D2 := Aside0.mk d2; have Q2 := Aside0.mk q2; clear d2 q2; have xc2 := cellX.out _ BL2.out; have yc2 := cellY.out _ BL2.out))
          go_ret
          exact ⟨by rw [ST.out]; rfl, BL2.out⟩
        | none =>
          have cy := fun (w' : World) (hb' : Below w.heap.size w w') => conv_none y w' hys (HL.out.below hb') hq
          have sc0 := fun w => Tryz.strings_Compare x y w
          simp only [compare_cS, ← toList_eq'] at sc0
          rw [Seg.idC_tt hp hq] at st
          rcases cS_cmp.rng x.toList y.toList with hz | hz | hz
          · rw [hz] at st
            simp only [hz] at sc0
            clear hz
            rw [if_neg (by decide)] at st
            have ST := Aside0.mk (EP.out.trans st)
            clear st hp hq
            go_wp2_with (first | (go_at_call 70; (with_reducible refine (cx _ BL0.out).mono ?_); rintro e w1 ⟨er1, rfl, d1⟩; have BL1 := Aside0.mk (below_then BL0.out BS0.out d1); have BS1 := Aside0.mk (Nat.le_trans BS0.out d1.size); clear d1; have yc1 := cellY.out _ BL1.out) | (go_at_call 70; (with_reducible refine (cy _ BL1.out).mono ?_); rintro e w2 ⟨er2, rfl, d2⟩; have BL2 := Aside0.mk (below_then BL1.out BS1.out d2); have BS2 := Aside0.mk (Nat.le_trans BS1.out d2.size); clear d2; have xc2 := cellX.out _ BL2.out; have yc2 := cellY.out _ BL2.out))
            go_quiet ((go_at_call 72; exact Calls.quiet_of_same (sc0 _)))
            go_wp2_with fail
            go_ret
            exact ⟨by rw [ST.out]; rfl, pw_below_drewN BL2.out _⟩
          · rw [hz] at st
            simp only [hz] at sc0
            clear hz
            rw [if_pos (by decide)] at st
            have ST := Aside0.mk st
            clear st hp hq
            go_wp2_with (first | (go_at_call 70; (with_reducible refine (cx _ BL0.out).mono ?_); rintro e w1 ⟨er1, rfl, d1⟩; have BL1 := Aside0.mk (below_then BL0.out BS0.out d1); have BS1 := Aside0.mk (Nat.le_trans BS0.out d1.size); clear d1; have yc1 := cellY.out _ BL1.out) | (go_at_call 70; (with_reducible refine (cy _ BL1.out).mono ?_); rintro e w2 ⟨er2, rfl, d2⟩; have BL2 := Aside0.mk (below_then BL1.out BS1.out d2); have BS2 := Aside0.mk (Nat.le_trans BS1.out d2.size); clear d2; have xc2 := cellX.out _ BL2.out; have yc2 := cellY.out _ BL2.out))
            go_quiet ((go_at_call 72; exact Calls.quiet_of_same (sc0 _)))
            go_wp2_with fail
            rw [wk]
            exact ⟨⟨k + 1, rfl, kn, pw_below_drewN BL2.out _, ST.out.symm⟩, by simp only [intOf]; omega⟩
          · rw [hz] at st
            simp only [hz] at sc0
            clear hz
            rw [if_neg (by decide)] at st
            have ST := Aside0.mk (EP.out.trans st)
            clear st hp hq
            go_wp2_with (first | (go_at_call 70; (with_reducible refine (cx _ BL0.out).mono ?_); rintro e w1 ⟨er1, rfl, d1⟩; have BL1 := Aside0.mk (below_then BL0.out BS0.out d1); have BS1 := Aside0.mk (Nat.le_trans BS0.out d1.size); clear d1; have yc1 := cellY.out _ BL1.out) | (go_at_call 70; (with_reducible refine (cy _ BL1.out).mono ?_); rintro e w2 ⟨er2, rfl, d2⟩; have BL2 := Aside0.mk (below_then BL1.out BS1.out d2); have BS2 := Aside0.mk (Nat.le_trans BS1.out d2.size); clear d2; have xc2 := cellX.out _ BL2.out; have yc2 := cellY.out _ BL2.out))
            go_quiet ((go_at_call 72; exact Calls.quiet_of_same (sc0 _)))
            go_wp2_with fail
            go_ret
            exact ⟨by rw [ST.out]; rfl, pw_below_drewN BL2.out _⟩
    · have e : k = n := by omega
      have le := lex_end Seg.idC (tl a) (tl b) k (by rw [e, tl_len, tl_len]; exact EN.out)
      rw [hlex, tl_len, tl_len] at le
      have f4 : ¬ (k : Int) < (n : Int) := by omega
      have LE := Aside0.mk le
      clear hlex hbw le ha hb la lb hn e hlt
      rcases Nat.lt_trichotomy a.length b.length with h1 | h1 | h1
      · have g1 : decide ((a.length : Int) > (b.length : Int)) = false := decide_eq_false (by omega)
        have g3 : decide (b.length < a.length) = false := decide_eq_false (by omega)
        have g2 : decide (a.length < b.length) = true := decide_eq_true h1
        have LC := Aside0.mk (LE.out.trans (cI_neg.2 (by omega)))
        go_wp2_with fail
        go_ret
        exact ⟨by rw [LC.out]; rfl, BL0.out⟩
      · have g3 : decide (b.length < a.length) = false := decide_eq_false (by omega)
        have g2 : decide (a.length < b.length) = false := decide_eq_false (by omega)
        have LC := Aside0.mk (LE.out.trans (cI_zero.2 (by omega)))
        have H1 := Aside0.mk h1
        clear h1
        go_wp2_with fail
        go_ret
        exact ⟨by rw [LC.out]; rfl, BL0.out⟩
      · have g3 : decide (b.length < a.length) = true := decide_eq_true h1
        have LC := Aside0.mk (LE.out.trans (cI_pos.2 (by omega)))
        go_wp2_with fail
        go_ret
        exact ⟨by rw [LC.out]; rfl, BL0.out⟩
end Go.Proofs.YtdliagehkiihpaaGreatDoor.Giv

namespace Go.Proofs.YtdliagehkiihpaaGreatDoor.Giv
open Go.RowKit Go.Proofs.YtdliagehkiihpaaGreatDoorW.PrintWords Go.Proofs.YtdliagehkiihpaaGreatDoorW.PrintLast Go.Proofs.YtdliagehkiihpaaGreatDoor.Pk Go.Proofs.YtdliagehkiihpaaGreatDoor.Ord
set_option linter.unusedVariables false

def semantic_compareSemverBuildComponents.f (l0 l1 : List ByteArray) : Option Int := if fit l0 = true ∧ fit l1 = true then some (lexL Seg.idC (tl l0) (tl l1)) else none
theorem semantic_compareSemverBuildComponents.calls (A0 : Option Addr) (c0 : Nat) (l0 : List ByteArray) (A1 : Option Addr) (c1 : Nat) (l1 : List ByteArray) (r : Int) (w : World) (hr0 : Kd.C Kd.string w A0 l0.length l0) (hc0 : l0.length ≤ c0) (hr1 : Kd.C Kd.string w A1 l1.length l1) (hc1 : l1.length ≤ c1) (h : semantic_compareSemverBuildComponents.f l0 l1 = some r) (hL : Laid w) :
    Calls Tryz.prog 50 #[.slice A0 l0.length c0, .slice A1 l1.length c1] w fun e w' => e = .returned (.int .i64 r) ∧ Below w.heap.size w w' := by
  unfold semantic_compareSemverBuildComponents.f at h
  split at h
  · next hc =>
    obtain rfl := Option.some.inj h
    exact semver_calls l0 l1 A0 A1 c0 c1 w hr0 hc0 hr1 hc1 hc.1 hc.2 hL
  · exact absurd h (by simp)
end Go.Proofs.YtdliagehkiihpaaGreatDoor.Giv
