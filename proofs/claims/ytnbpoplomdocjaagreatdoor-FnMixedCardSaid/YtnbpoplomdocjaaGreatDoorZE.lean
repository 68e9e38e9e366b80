/- Lists of texts, as bytes.
   Contracts by hand: lists of segments of versions of RubyGems compared.
   The contracts by hand in the print's form: segments and identifiers compared. The errors are laid. -/
import Derived.Test.YtnbpoplomdocjaaGreatDoorZD
import Derived.Test.YtnbpoplomdocjaaGreatDoorZA
import Derived.Test.YtnbpoplomdocjaaGreatDoorZC
import Derived.Test.YtnbpoplomdocjaaGreatDoorQFx
import Derived.Test.YtnbpoplomdocjaaGreatDoorShelf
namespace Go.Proofs.YtnbpoplomdocjaaGreatDoor.Giv
open Go.RowKit Go.Proofs.YtnbpoplomdocjaaGreatDoorW.PrintWords Go.Proofs.YtnbpoplomdocjaaGreatDoorW.PrintLast Go.Proofs.YtnbpoplomdocjaaGreatDoor.Pk Go.Proofs.YtnbpoplomdocjaaGreatDoor.Ord
set_option linter.unusedVariables false
set_option linter.unusedSimpArgs false

/-- A list of texts, as bytes. -/
def tl (l : List ByteArray) : List (List UInt8) := l.map ByteArray.toList
theorem tl_len (l : List ByteArray) : (tl l).length = l.length := by simp [tl]
/-- Texts short enough to be read as numbers. -/
def fit (l : List ByteArray) : Bool := decide (l.length ≤ 100000) && l.all (fun x => decide (x.size ≤ 40000))
theorem fit_len {l : List ByteArray} (h : fit l = true) : l.length ≤ 100000 := by
  unfold fit at h
  rw [Bool.and_eq_true] at h
  exact of_decide_eq_true h.1
theorem fit_at {l : List ByteArray} (h : fit l = true) (k : Nat) {z : ByteArray} (hz : z.size ≤ 40000) : (l.getD k z).size ≤ 40000 := by
  unfold fit at h
  rw [Bool.and_eq_true, List.all_eq_true] at h
  rw [List.getD_eq_getElem?_getD]
  cases hk : l[k]? with
  | none => exact hz
  | some x =>
    have := h.2 x (List.mem_of_getElem? hk)
    simpa using this
theorem headD_drop (l : List ByteArray) (k : Nat) (z : ByteArray) : ((tl l).drop k).headD z.toList = (l.getD k z).toList := by
  unfold tl
  rw [← List.map_drop, List.getD_eq_getElem?_getD, ← List.head?_drop]
  cases l.drop k <;> rfl
theorem pad_step (c : List UInt8 → List UInt8 → Int) (z : ByteArray) (a b : List ByteArray) (n k : Nat) (h : k < n) : padN c z.toList (n - k) ((tl a).drop k) ((tl b).drop k) = if c (a.getD k z).toList (b.getD k z).toList = 0 then padN c z.toList (n - (k + 1)) ((tl a).drop (k + 1)) ((tl b).drop (k + 1)) else c (a.getD k z).toList (b.getD k z).toList := by
  rw [show n - k = (n - (k + 1)) + 1 by omega, padN, headD_drop, headD_drop, List.tail_drop, List.tail_drop]
theorem z48 : (⟨#[48]⟩ : ByteArray).size ≤ 40000 := by
  show 1 ≤ 40000
  omega
theorem fit_get {l : List ByteArray} (h : fit l = true) (k : Nat) (hk : k < l.length) : (l[k]'hk).size ≤ 40000 := by
  have := fit_at h k (z := ⟨#[48]⟩) z48
  rw [List.getD_eq_getElem?_getD, List.getElem?_eq_getElem hk] at this
  exact this
theorem zero_lit : (⟨#[48]⟩ : ByteArray).toList = [48] := lit_toList [48]
end Go.Proofs.YtnbpoplomdocjaaGreatDoor.Giv

namespace Go.Proofs.YtnbpoplomdocjaaGreatDoor.Giv
open Go.RowKit Go.Proofs.YtnbpoplomdocjaaGreatDoorW.PrintWords Go.Proofs.YtnbpoplomdocjaaGreatDoorW.PrintLast Go.Proofs.YtnbpoplomdocjaaGreatDoor.Pk Go.Proofs.YtnbpoplomdocjaaGreatDoor.Ord
set_option linter.unusedVariables false
set_option linter.unusedSimpArgs false

theorem fetch_f (l : List ByteArray) (k : Nat) (z : ByteArray) : QF.semantic_fetch.f l (k : Int) z = some (l.getD k z) := by
  unfold QF.semantic_fetch.f
  by_cases h : k < l.length
  · rw [if_neg (by omega)]
    first
      | rw [if_pos (by omega), if_pos (by omega)]
      | rw [if_pos (by omega)]
    rw [rdOf_nat _ _ k h, List.getD_eq_getElem?_getD, List.getElem?_eq_getElem h]
    rfl
  · rw [if_pos (by omega), List.getD_eq_getElem?_getD, List.getElem?_eq_none (by omega)]
    rfl
set_option maxRecDepth 100000 in
set_option maxHeartbeats 4000000 in
theorem ruby_calls (a b : List ByteArray) (A0 A1 : Option Addr) (c0 c1 : Nat) (w : World) (hr0 : Kd.C Kd.string w A0 a.length a) (hc0 : a.length ≤ c0) (hr1 : Kd.C Kd.string w A1 b.length b) (hc1 : b.length ≤ c1) (ha : fit a = true) (hb : fit b = true) (hL : Laid w) :
    Calls Tryz.prog 90 #[.slice A0 a.length c0, .slice A1 b.length c1] w fun e w' => e = .returned (.int .i64 (padL Seg.segC [48] (tl a) (tl b))) ∧ Below w.heap.size w w' := by
  have HR0 := Aside0.mk hr0
  have HR1 := Aside0.mk hr1
  have HL := Aside0.mk hL
  have la := fit_len ha
  have lb := fit_len hb
  obtain ⟨n, en⟩ : ∃ n, n = max a.length b.length := ⟨_, rfl⟩
  have EP : Aside0 (padL Seg.segC [48] (tl a) (tl b) = padN Seg.segC (⟨#[48]⟩ : ByteArray).toList n (tl a) (tl b)) := Aside0.mk (by
    unfold padL
    rw [tl_len, tl_len, ← en, zero_lit])
  have mx : max (a.length : Int) (b.length : Int) = (n : Int) := by omega
  have mx2 : (if (a.length : Int) < (b.length : Int) then (b.length : Int) else (a.length : Int)) = (n : Int) := by split <;> omega
  have hn : n ≤ 100000 := by omega
  clear hr0 hr1 hL en
  go_enter Tryz.func90, Tryz.ntmps90
  go_wp2_with fail
  clear mx mx2
  go_loopw [21] (fun v21 wr => ∃ k : Nat, v21 = .int .i64 k ∧ k ≤ n ∧ Below w.heap.size w wr ∧ padN Seg.segC (⟨#[48]⟩ : ByteArray).toList (n - k) ((tl a).drop k) ((tl b).drop k) = padN Seg.segC (⟨#[48]⟩ : ByteArray).toList n (tl a) (tl b)) (fun v21 wr => n - (intOf v21).toNat)
  case atStart => exact ⟨0, rfl, Nat.zero_le _, Below.refl _ _, rfl⟩
  case round =>
    obtain ⟨k, rfl, hk, hbw, hpad⟩ := hrel
    have BL := Aside0.mk hbw
    have BS := Aside0.mk hbw.size
    by_cases hlt : k < n
    · have st := pad_step Seg.segC ⟨#[48]⟩ a b n k hlt
      rw [hpad] at st
      have fa := fun (w' : World) (hb' : Below w.heap.size w w') => QF.semantic_fetch.calls A0 c0 a (k : Int) ⟨#[48]⟩ (a.getD k ⟨#[48]⟩) w' (Kd.C_below HR0.out hb') hc0 (fetch_f a k _)
      have fb := fun (w' : World) (hb' : Below w.heap.size w w') => QF.semantic_fetch.calls A1 c1 b (k : Int) ⟨#[48]⟩ (b.getD k ⟨#[48]⟩) w' (Kd.C_below HR1.out hb') hc1 (fetch_f b k _)
      have hxs := fit_at ha k (z := ⟨#[48]⟩) z48
      have hys := fit_at hb k (z := ⟨#[48]⟩) z48
      obtain ⟨x, ex⟩ : ∃ x, x = a.getD k ⟨#[48]⟩ := ⟨_, rfl⟩
      obtain ⟨y, ey⟩ : ∃ y, y = b.getD k ⟨#[48]⟩ := ⟨_, rfl⟩
      rw [← ex] at fa hxs st
      rw [← ey] at fb hys st
      have wk : wrap64 ((k : Int) + 1) = ((k + 1 : Nat) : Int) := Pk.wr k (by omega)
      have f4 : (k : Int) < (n : Int) := Int.ofNat_lt.2 hlt
      have kn : k + 1 ≤ n := hlt
      clear ex ey hpad hbw ha hb hlt la lb hn
      have cm := fun p q b1 b2 w' (h1 : IsBig w' b1 p) (h2 : IsBig w' b2 q) => Cmp_calls p q b1 b2 w' h1 h2
      cases hp : Num.parse x.toList with
      | some p =>
        have cx := fun (w' : World) (hb' : Below w.heap.size w w') => conv_some x w' p hxs (HL.out.below hb') hp
        cases hq : Num.parse y.toList with
        | some q =>
          have cy := fun (w' : World) (hb' : Below w.heap.size w w') => conv_some y w' q hys (HL.out.below hb') hq
          rw [Seg.segC_nn hp hq] at st
          obtain ⟨c, ec⟩ : ∃ c, c = cI p q := ⟨_, rfl⟩
          have cm0 := fun b1 b2 w' h1 h2 => cm p q b1 b2 w' h1 h2
          rw [← ec] at st cm0
          clear ec
          by_cases hz : c = 0
          · subst hz
            rw [if_pos rfl] at st
            have ST := Aside0.mk st
            clear st hp hq cm
            go_wp2_with (first | (go_at_call 105; (with_reducible refine (fa _ BL.out).mono ?_); rintro e w1 ⟨rfl, d1⟩; have BL1 := Aside0.mk (below_then BL.out BS.out d1.below); have BS1 := Aside0.mk (Nat.le_trans BS.out d1.below.size); clear d1) | (go_at_call 105; (with_reducible refine (fb _ BL1.out).mono ?_); rintro e w2 ⟨rfl, d2⟩; have BL2 := Aside0.mk (below_then BL1.out BS1.out d2.below); have BS2 := Aside0.mk (Nat.le_trans BS1.out d2.below.size); clear d2) | (go_at_call 40; (with_reducible refine (cx _ BL2.out).mono ?_); rintro e w3 ⟨bx, rfl, q3, d3⟩; have BL3 := Aside0.mk (below_then BL2.out BS2.out d3); have BS3 := Aside0.mk (Nat.le_trans BS2.out d3.size); have D3 := Aside0.mk d3; have Q3 := Aside0.mk q3; clear d3 q3) | (go_at_call 40; (with_reducible refine (cy _ BL3.out).mono ?_); rintro e w4 ⟨by_, rfl, q4, d4⟩; have BL4 := Aside0.mk (below_then BL3.out BS3.out d4); have BS4 := Aside0.mk (Nat.le_trans BS3.out d4.size); have D4 := Aside0.mk d4; have Q4 := Aside0.mk q4; clear d4 q4) | (go_at_call 78; (with_reducible refine (cm0 _ _ _ (Q3.out.below D4.out) Q4.out).mono ?_); rintro e w5 ⟨rfl, d5⟩; have BL5 := Aside0.mk (below_then BL4.out BS4.out d5.below); clear d5))
            rw [wk]
            exact ⟨⟨k + 1, rfl, kn, BL5.out, ST.out.symm⟩, by simp only [intOf]; omega⟩
          · rw [if_neg hz] at st
            have nz : (c != 0) = true := bne_iff_ne.2 hz
            have ST := Aside0.mk (EP.out.trans st)
            clear st hz hp hq cm
            go_wp2_with (first | (go_at_call 105; (with_reducible refine (fa _ BL.out).mono ?_); rintro e w1 ⟨rfl, d1⟩; have BL1 := Aside0.mk (below_then BL.out BS.out d1.below); have BS1 := Aside0.mk (Nat.le_trans BS.out d1.below.size); clear d1) | (go_at_call 105; (with_reducible refine (fb _ BL1.out).mono ?_); rintro e w2 ⟨rfl, d2⟩; have BL2 := Aside0.mk (below_then BL1.out BS1.out d2.below); have BS2 := Aside0.mk (Nat.le_trans BS1.out d2.below.size); clear d2) | (go_at_call 40; (with_reducible refine (cx _ BL2.out).mono ?_); rintro e w3 ⟨bx, rfl, q3, d3⟩; have BL3 := Aside0.mk (below_then BL2.out BS2.out d3); have BS3 := Aside0.mk (Nat.le_trans BS2.out d3.size); have D3 := Aside0.mk d3; have Q3 := Aside0.mk q3; clear d3 q3) | (go_at_call 40; (with_reducible refine (cy _ BL3.out).mono ?_); rintro e w4 ⟨by_, rfl, q4, d4⟩; have BL4 := Aside0.mk (below_then BL3.out BS3.out d4); have BS4 := Aside0.mk (Nat.le_trans BS3.out d4.size); have D4 := Aside0.mk d4; have Q4 := Aside0.mk q4; clear d4 q4) | (go_at_call 78; (with_reducible refine (cm0 _ _ _ (Q3.out.below D4.out) Q4.out).mono ?_); rintro e w5 ⟨rfl, d5⟩; have BL5 := Aside0.mk (below_then BL4.out BS4.out d5.below); clear d5))
            go_ret
            exact ⟨by rw [ST.out]; rfl, BL5.out⟩
        | none =>
          have cy := fun (w' : World) (hb' : Below w.heap.size w w') => conv_none y w' hys (HL.out.below hb') hq
          rw [Seg.segC_nt hp hq, if_neg (by decide)] at st
          have ST := Aside0.mk (EP.out.trans st)
          clear st hp hq cm
          go_wp2_with (first | (go_at_call 105; (with_reducible refine (fa _ BL.out).mono ?_); rintro e w1 ⟨rfl, d1⟩; have BL1 := Aside0.mk (below_then BL.out BS.out d1.below); have BS1 := Aside0.mk (Nat.le_trans BS.out d1.below.size); clear d1) | (go_at_call 105; (with_reducible refine (fb _ BL1.out).mono ?_); rintro e w2 ⟨rfl, d2⟩; have BL2 := Aside0.mk (below_then BL1.out BS1.out d2.below); have BS2 := Aside0.mk (Nat.le_trans BS1.out d2.below.size); clear d2) | (go_at_call 40; (with_reducible refine (cx _ BL2.out).mono ?_); rintro e w3 ⟨bx, rfl, q3, d3⟩; have BL3 := Aside0.mk (below_then BL2.out BS2.out d3); have BS3 := Aside0.mk (Nat.le_trans BS2.out d3.size); have D3 := Aside0.mk d3; have Q3 := Aside0.mk q3; clear d3 q3) | (go_at_call 40; (with_reducible refine (cy _ BL3.out).mono ?_); rintro e w4 ⟨er4, rfl, d4⟩; have BL4 := Aside0.mk (below_then BL3.out BS3.out d4); have BS4 := Aside0.mk (Nat.le_trans BS3.out d4.size); clear d4))
          go_ret
          exact ⟨by rw [ST.out]; rfl, BL4.out⟩
      | none =>
        have cx := fun (w' : World) (hb' : Below w.heap.size w w') => conv_none x w' hxs (HL.out.below hb') hp
        cases hq : Num.parse y.toList with
        | some q =>
          have cy := fun (w' : World) (hb' : Below w.heap.size w w') => conv_some y w' q hys (HL.out.below hb') hq
          rw [Seg.segC_tn hp hq, if_neg (by decide)] at st
          have ST := Aside0.mk (EP.out.trans st)
          clear st hp hq cm
          go_wp2_with (first | (go_at_call 105; (with_reducible refine (fa _ BL.out).mono ?_); rintro e w1 ⟨rfl, d1⟩; have BL1 := Aside0.mk (below_then BL.out BS.out d1.below); have BS1 := Aside0.mk (Nat.le_trans BS.out d1.below.size); clear d1) | (go_at_call 105; (with_reducible refine (fb _ BL1.out).mono ?_); rintro e w2 ⟨rfl, d2⟩; have BL2 := Aside0.mk (below_then BL1.out BS1.out d2.below); have BS2 := Aside0.mk (Nat.le_trans BS1.out d2.below.size); clear d2) | (go_at_call 40; (with_reducible refine (cx _ BL2.out).mono ?_); rintro e w3 ⟨er3, rfl, d3⟩; have BL3 := Aside0.mk (below_then BL2.out BS2.out d3); have BS3 := Aside0.mk (Nat.le_trans BS2.out d3.size); clear d3) | (go_at_call 40; (with_reducible refine (cy _ BL3.out).mono ?_); rintro e w4 ⟨by_, rfl, q4, d4⟩; have BL4 := Aside0.mk (below_then BL3.out BS3.out d4); have BS4 := Aside0.mk (Nat.le_trans BS3.out d4.size); have D4 := Aside0.mk d4; have Q4 := Aside0.mk q4; clear d4 q4))
          go_ret
          exact ⟨by rw [ST.out]; rfl, BL4.out⟩
        | none =>
          have cy := fun (w' : World) (hb' : Below w.heap.size w w') => conv_none y w' hys (HL.out.below hb') hq
          have sc := fun w => Tryz.strings_Compare x y w
          simp only [compare_cS, ← toList_eq'] at sc
          rw [Seg.segC_tt hp hq] at st
          obtain ⟨c, ec⟩ : ∃ c, c = cS x.toList y.toList := ⟨_, rfl⟩
          rw [← ec] at st
          simp only [← ec] at sc
          clear ec
          by_cases hz : c = 0
          · subst hz
            rw [if_pos rfl] at st
            have ST := Aside0.mk st
            clear st hp hq cm
            go_wp2_with (first | (go_at_call 105; (with_reducible refine (fa _ BL.out).mono ?_); rintro e w1 ⟨rfl, d1⟩; have BL1 := Aside0.mk (below_then BL.out BS.out d1.below); have BS1 := Aside0.mk (Nat.le_trans BS.out d1.below.size); clear d1) | (go_at_call 105; (with_reducible refine (fb _ BL1.out).mono ?_); rintro e w2 ⟨rfl, d2⟩; have BL2 := Aside0.mk (below_then BL1.out BS1.out d2.below); have BS2 := Aside0.mk (Nat.le_trans BS1.out d2.below.size); clear d2) | (go_at_call 40; (with_reducible refine (cx _ BL2.out).mono ?_); rintro e w3 ⟨er3, rfl, d3⟩; have BL3 := Aside0.mk (below_then BL2.out BS2.out d3); have BS3 := Aside0.mk (Nat.le_trans BS2.out d3.size); clear d3) | (go_at_call 40; (with_reducible refine (cy _ BL3.out).mono ?_); rintro e w4 ⟨er4, rfl, d4⟩; have BL4 := Aside0.mk (below_then BL3.out BS3.out d4); have BS4 := Aside0.mk (Nat.le_trans BS3.out d4.size); clear d4) | (go_at_call 111; (with_reducible refine (sc _).mono ?_); rintro e w5 ⟨rfl, rfl⟩; have BL5 := Aside0.mk BL4.out))
            rw [wk]
            exact ⟨⟨k + 1, rfl, kn, BL5.out, ST.out.symm⟩, by simp only [intOf]; omega⟩
          · rw [if_neg hz] at st
            have nz : (c != 0) = true := bne_iff_ne.2 hz
            have ST := Aside0.mk (EP.out.trans st)
            clear st hz hp hq cm
            go_wp2_with (first | (go_at_call 105; (with_reducible refine (fa _ BL.out).mono ?_); rintro e w1 ⟨rfl, d1⟩; have BL1 := Aside0.mk (below_then BL.out BS.out d1.below); have BS1 := Aside0.mk (Nat.le_trans BS.out d1.below.size); clear d1) | (go_at_call 105; (with_reducible refine (fb _ BL1.out).mono ?_); rintro e w2 ⟨rfl, d2⟩; have BL2 := Aside0.mk (below_then BL1.out BS1.out d2.below); have BS2 := Aside0.mk (Nat.le_trans BS1.out d2.below.size); clear d2) | (go_at_call 40; (with_reducible refine (cx _ BL2.out).mono ?_); rintro e w3 ⟨er3, rfl, d3⟩; have BL3 := Aside0.mk (below_then BL2.out BS2.out d3); have BS3 := Aside0.mk (Nat.le_trans BS2.out d3.size); clear d3) | (go_at_call 40; (with_reducible refine (cy _ BL3.out).mono ?_); rintro e w4 ⟨er4, rfl, d4⟩; have BL4 := Aside0.mk (below_then BL3.out BS3.out d4); have BS4 := Aside0.mk (Nat.le_trans BS3.out d4.size); clear d4) | (go_at_call 111; (with_reducible refine (sc _).mono ?_); rintro e w5 ⟨rfl, rfl⟩; have BL5 := Aside0.mk BL4.out))
            go_ret
            exact ⟨by rw [ST.out]; rfl, BL5.out⟩
    · have e : k = n := by omega
      subst e
      rw [Nat.sub_self] at hpad
      have f4 : ¬ (k : Int) < (k : Int) := by omega
      have EQ := Aside0.mk (EP.out.trans hpad.symm)
      clear hpad hbw
      go_wp2_with fail
      go_ret
      exact ⟨by rw [EQ.out]; rfl, BL.out⟩
end Go.Proofs.YtnbpoplomdocjaaGreatDoor.Giv

namespace Go.Proofs.YtnbpoplomdocjaaGreatDoor.Giv
open Go.RowKit Go.Proofs.YtnbpoplomdocjaaGreatDoorW.PrintWords Go.Proofs.YtnbpoplomdocjaaGreatDoorW.PrintLast Go.Proofs.YtnbpoplomdocjaaGreatDoor.Pk Go.Proofs.YtnbpoplomdocjaaGreatDoor.Ord
set_option linter.unusedVariables false

def semantic_compareRubyGemsComponents.f (l0 l1 : List ByteArray) : Option Int := if fit l0 = true ∧ fit l1 = true then some (padL Seg.segC [48] (tl l0) (tl l1)) else none
theorem semantic_compareRubyGemsComponents.calls (A0 : Option Addr) (c0 : Nat) (l0 : List ByteArray) (A1 : Option Addr) (c1 : Nat) (l1 : List ByteArray) (r : Int) (w : World) (hr0 : Kd.C Kd.string w A0 l0.length l0) (hc0 : l0.length ≤ c0) (hr1 : Kd.C Kd.string w A1 l1.length l1) (hc1 : l1.length ≤ c1) (h : semantic_compareRubyGemsComponents.f l0 l1 = some r) (hL : Laid w) :
    Calls Tryz.prog 90 #[.slice A0 l0.length c0, .slice A1 l1.length c1] w fun e w' => e = .returned (.int .i64 r) ∧ Below w.heap.size w w' := by
  unfold semantic_compareRubyGemsComponents.f at h
  split at h
  · next hc =>
    obtain rfl := Option.some.inj h
    exact ruby_calls l0 l1 A0 A1 c0 c1 w hr0 hc0 hr1 hc1 hc.1 hc.2 hL
  · exact absurd h (by simp)
end Go.Proofs.YtnbpoplomdocjaaGreatDoor.Giv
