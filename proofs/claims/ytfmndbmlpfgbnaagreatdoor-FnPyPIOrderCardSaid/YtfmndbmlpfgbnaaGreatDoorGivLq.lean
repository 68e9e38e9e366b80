/- Contracts by hand: local versions of PyPI compared, whatever the release. -/
import Derived.Test.YtfmndbmlpfgbnaaGreatDoorZE
import Derived.Test.YtfmndbmlpfgbnaaGreatDoorZC
import Derived.Test.YtfmndbmlpfgbnaaGreatDoorShelf
import Derived.BigQuiet
import Derived.Deep.QuietTactic
import Derived.Outline
namespace Go.Proofs.YtfmndbmlpfgbnaaGreatDoor.Giv
open Go.RowKit Go.Proofs.YtfmndbmlpfgbnaaGreatDoorW.PrintWords Go.Proofs.YtfmndbmlpfgbnaaGreatDoorW.PrintLast Go.Proofs.YtfmndbmlpfgbnaaGreatDoor.Pk Go.Proofs.YtfmndbmlpfgbnaaGreatDoor.Ord
set_option linter.unusedVariables false
set_option linter.unusedSimpArgs false

theorem lo_drop {α : Type} (c : α → α → Int) (a b : List α) (k : Nat) (ha : k < a.length) (hb : k < b.length) : lexL c (a.drop k) (b.drop k) = if c (a[k]'ha) (b[k]'hb) = 0 then lexL c (a.drop (k + 1)) (b.drop (k + 1)) else c (a[k]'ha) (b[k]'hb) := by
  rw [List.drop_eq_getElem_cons ha, List.drop_eq_getElem_cons hb]
  rfl
theorem lo_end {α : Type} (c : α → α → Int) (a b : List α) (k : Nat) (h : k = min a.length b.length) : lexL c (a.drop k) (b.drop k) = cI a.length b.length := by
  rcases Nat.lt_trichotomy a.length b.length with h1 | h1 | h1
  · rw [List.drop_eq_nil_of_le (by omega), List.drop_eq_getElem_cons (by omega : k < b.length), cI_neg.2 (by omega)]
    rfl
  · rw [List.drop_eq_nil_of_le (by omega), List.drop_eq_nil_of_le (by omega), cI_zero.2 (by omega)]
    rfl
  · have eb : b.drop k = [] := List.drop_eq_nil_of_le (by omega)
    rw [eb, List.drop_eq_getElem_cons (by omega : k < a.length), cI_pos.2 (by omega)]
    rfl
theorem lo_get {l : List ByteArray} (h : fit l = true) (k : Nat) (hk : k < l.length) : (l[k]'hk).size ≤ 40000 := by
  have := fit_at h k (z := ⟨#[48]⟩) z48
  rw [List.getD_eq_getElem?_getD, List.getElem?_eq_getElem hk] at this
  exact this
/-- Segments of local versions: numbers by value, others by their bytes, a number is the greater. -/
def pyC (x y : List UInt8) : Int := match Num.parse x, Num.parse y with
  | some p, some q => cI p q
  | some _, none => 1
  | none, some _ => -1
  | none, none => cS x y
theorem pyC_nn {x y : List UInt8} {p q : Int} (hx : Num.parse x = some p) (hy : Num.parse y = some q) : pyC x y = cI p q := by unfold pyC; rw [hx, hy]
theorem pyC_nt {x y : List UInt8} {p : Int} (hx : Num.parse x = some p) (hy : Num.parse y = none) : pyC x y = 1 := by unfold pyC; rw [hx, hy]
theorem pyC_tn {x y : List UInt8} {q : Int} (hx : Num.parse x = none) (hy : Num.parse y = some q) : pyC x y = -1 := by unfold pyC; rw [hx, hy]
theorem pyC_tt {x y : List UInt8} (hx : Num.parse x = none) (hy : Num.parse y = none) : pyC x y = cS x y := by unfold pyC; rw [hx, hy]
/-- A version of which the release and the local part are told. -/
abbrev loR (e v : Value) (A : Option Addr) (n c : Nat) : Array Value := #[e, v, .string ⟨#[]⟩, .pointer none, .string ⟨#[]⟩, .pointer none, .string ⟨#[]⟩, .pointer none, .slice A n c, .slice none 0 0]
set_option maxRecDepth 100000 in
set_option maxHeartbeats 4000000 in
theorem local_calls (e0 e1 v0 v1 : Value) (a b : List ByteArray) (A0 A1 : Option Addr) (c0 c1 : Nat) (w0 : World) (hr0 : Kd.C Kd.string w0 A0 a.length a) (hr1 : Kd.C Kd.string w0 A1 b.length b) (ha : fit a = true) (hb : fit b = true) (hL : Laid w0) :
    Calls Tryz.prog 33 #[.agg (loR e0 v0 A0 a.length c0), .agg (loR e1 v1 A1 b.length c1)] w0 fun e w' => e = .returned (.int .i64 (lexL pyC (tl a) (tl b))) ∧ Below w0.heap.size w0 w' := by
  have b2 := below_alloc (below_alloc (Below.refl w0.heap.size w0) (Obj.cells #[e0, v0, .string ⟨#[]⟩, .pointer none, .string ⟨#[]⟩, .pointer none, .string ⟨#[]⟩, .pointer none, .slice A0 a.length c0, .slice none 0 0] 51)) (Obj.cells #[e1, v1, .string ⟨#[]⟩, .pointer none, .string ⟨#[]⟩, .pointer none, .string ⟨#[]⟩, .pointer none, .slice A1 b.length c1, .slice none 0 0] 51)
  have k1 : ((w0.alloc (Obj.cells #[e0, v0, .string ⟨#[]⟩, .pointer none, .string ⟨#[]⟩, .pointer none, .string ⟨#[]⟩, .pointer none, .slice A0 a.length c0, .slice none 0 0] 51)).alloc (Obj.cells #[e1, v1, .string ⟨#[]⟩, .pointer none, .string ⟨#[]⟩, .pointer none, .string ⟨#[]⟩, .pointer none, .slice A1 b.length c1, .slice none 0 0] 51)).heap[w0.heap.size]? = some (Obj.cells #[e0, v0, .string ⟨#[]⟩, .pointer none, .string ⟨#[]⟩, .pointer none, .string ⟨#[]⟩, .pointer none, .slice A0 a.length c0, .slice none 0 0] 51) := blk_alloc (blk_new w0 _) _
  have m1 : ((w0.alloc (Obj.cells #[e0, v0, .string ⟨#[]⟩, .pointer none, .string ⟨#[]⟩, .pointer none, .string ⟨#[]⟩, .pointer none, .slice A0 a.length c0, .slice none 0 0] 51)).alloc (Obj.cells #[e1, v1, .string ⟨#[]⟩, .pointer none, .string ⟨#[]⟩, .pointer none, .string ⟨#[]⟩, .pointer none, .slice A1 b.length c1, .slice none 0 0] 51)).heap[w0.heap.size + 1]? = some (Obj.cells #[e1, v1, .string ⟨#[]⟩, .pointer none, .string ⟨#[]⟩, .pointer none, .string ⟨#[]⟩, .pointer none, .slice A1 b.length c1, .slice none 0 0] 51) := by
    have := blk_new (w0.alloc (Obj.cells #[e0, v0, .string ⟨#[]⟩, .pointer none, .string ⟨#[]⟩, .pointer none, .string ⟨#[]⟩, .pointer none, .slice A0 a.length c0, .slice none 0 0] 51)) (Obj.cells #[e1, v1, .string ⟨#[]⟩, .pointer none, .string ⟨#[]⟩, .pointer none, .string ⟨#[]⟩, .pointer none, .slice A1 b.length c1, .slice none 0 0] 51)
    simpa using this
  have q0 : ((w0.alloc (Obj.cells #[e0, v0, .string ⟨#[]⟩, .pointer none, .string ⟨#[]⟩, .pointer none, .string ⟨#[]⟩, .pointer none, .slice A0 a.length c0, .slice none 0 0] 51)).alloc (Obj.cells #[e1, v1, .string ⟨#[]⟩, .pointer none, .string ⟨#[]⟩, .pointer none, .string ⟨#[]⟩, .pointer none, .slice A1 b.length c1, .slice none 0 0] 51)).cell? ⟨w0.heap.size, 8, none⟩ = some (.slice A0 a.length c0) := blk_cell k1 8
  have q1 : ((w0.alloc (Obj.cells #[e0, v0, .string ⟨#[]⟩, .pointer none, .string ⟨#[]⟩, .pointer none, .string ⟨#[]⟩, .pointer none, .slice A0 a.length c0, .slice none 0 0] 51)).alloc (Obj.cells #[e1, v1, .string ⟨#[]⟩, .pointer none, .string ⟨#[]⟩, .pointer none, .string ⟨#[]⟩, .pointer none, .slice A1 b.length c1, .slice none 0 0] 51)).cell? ⟨w0.heap.size + 1, 8, none⟩ = some (.slice A1 b.length c1) := blk_cell m1 8
  obtain ⟨w, ew⟩ : ∃ w, w = ((w0.alloc (Obj.cells #[e0, v0, .string ⟨#[]⟩, .pointer none, .string ⟨#[]⟩, .pointer none, .string ⟨#[]⟩, .pointer none, .slice A0 a.length c0, .slice none 0 0] 51)).alloc (Obj.cells #[e1, v1, .string ⟨#[]⟩, .pointer none, .string ⟨#[]⟩, .pointer none, .string ⟨#[]⟩, .pointer none, .slice A1 b.length c1, .slice none 0 0] 51)) := ⟨_, rfl⟩
  have EW := Aside0.mk ew
  rw [← ew] at b2 k1 m1
  have B2 := Aside0.mk b2
  have F0 := Aside0.mk (show ∀ w', Below w.heap.size w w' → w'.cell? ⟨w0.heap.size, 8, none⟩ = some (.slice A0 a.length c0) from fun w' h => blk_cell ((h.block _ (blk_lt k1)).trans k1) 8)
  have F1 := Aside0.mk (show ∀ w', Below w.heap.size w w' → w'.cell? ⟨w0.heap.size + 1, 8, none⟩ = some (.slice A1 b.length c1) from fun w' h => blk_cell ((h.block _ (blk_lt m1)).trans m1) 8)
  have HR0 := Aside0.mk hr0
  have HR1 := Aside0.mk hr1
  have HL := Aside0.mk (hL.below b2)
  have la := fit_len ha
  have lb := fit_len hb
  obtain ⟨n, en⟩ : ∃ n, n = min a.length b.length := ⟨_, rfl⟩
  have EN := Aside0.mk en
  have mx : min (a.length : Int) (b.length : Int) = (n : Int) := by omega
  have hn : n ≤ 100000 := by omega
  clear hr0 hr1 hL en k1 m1 b2 ew
  go_enter Tryz.func33, Tryz.ntmps33
  go_wp2_with fail
  clear mx q0 q1
  go_loopw [20] (fun v20 wr => ∃ k : Nat, v20 = .int .i64 k ∧ k ≤ n ∧ Below w.heap.size w wr ∧ lexL pyC ((tl a).drop k) ((tl b).drop k) = lexL pyC (tl a) (tl b)) (fun v20 wr => n - (intOf v20).toNat)
  case atStart => exact ⟨0, rfl, Nat.zero_le _, by rw [EW.out]; exact Below.refl _ _, rfl⟩
  case round =>
    obtain ⟨k, rfl, hk, hbw, hlex⟩ := hrel
    have BL0 := Aside0.mk hbw
    have BS0 := Aside0.mk hbw.size
    by_cases hlt : k < n
    · have ka : k < a.length := by have := EN.out; omega
      have kb : k < b.length := by have := EN.out; omega
      have st := lo_drop pyC (tl a) (tl b) k (by rw [tl_len]; exact ka) (by rw [tl_len]; exact kb)
      rw [hlex] at st
      have EP : Aside0 (lexL pyC (tl a) (tl b) = lexL pyC (tl a) (tl b)) := Aside0.mk rfl
      have hxs := lo_get ha k ka
      have hys := lo_get hb k kb
      obtain ⟨adx, rfl, cx0⟩ := Kd.at_string HR0.out (k : Int) (by omega) (by omega)
      obtain ⟨ady, rfl, cy0⟩ := Kd.at_string HR1.out (k : Int) (by omega) (by omega)
      rw [rdOf_nat _ _ k ka, Int.toNat_natCast] at cx0
      rw [rdOf_nat _ _ k kb, Int.toNat_natCast] at cy0
      obtain ⟨x, ex⟩ : ∃ x, x = a[k]'ka := ⟨_, rfl⟩
      obtain ⟨y, ey⟩ : ∃ y, y = b[k]'kb := ⟨_, rfl⟩
      rw [← ex] at hxs cx0
      rw [← ey] at hys cy0
      have gx : (tl a)[k]'(by rw [tl_len]; exact ka) = x.toList := by rw [ex]; simp [tl]
      have gy : (tl b)[k]'(by rw [tl_len]; exact kb) = y.toList := by rw [ey]; simp [tl]
      rw [gx, gy] at st
      have cellX := Aside0.mk (show ∀ w', Below w.heap.size w w' → w'.cell? (adx.add k) = some (.string x) from fun w' h => pw_cell_below h (pw_cell_below B2.out cx0))
      have cellY := Aside0.mk (show ∀ w', Below w.heap.size w w' → w'.cell? (ady.add k) = some (.string y) from fun w' h => pw_cell_below h (pw_cell_below B2.out cy0))
      have xc0 := cellX.out _ hbw
      have xl0 := F0.out _ hbw
      have wk : wrap64 ((k : Int) + 1) = ((k + 1 : Nat) : Int) := Pk.wr k (by omega)
      have f4 : (k : Int) < (n : Int) := Int.ofNat_lt.2 hlt
      have f5 : (k : Int) < (a.length : Int) := Int.ofNat_lt.2 ka
      have f6 : (k : Int) < (b.length : Int) := Int.ofNat_lt.2 kb
      have kn : k + 1 ≤ n := hlt
      clear ex ey hlex hbw ha hb hlt la lb hn gx gy cx0 cy0
      have cm := fun p q b1 b2 w' (h1 : IsBig w' b1 p) (h2 : IsBig w' b2 q) => Cmp_calls p q b1 b2 w' h1 h2
      cases hp : Num.parse x.toList with
      | some p =>
        have cx := fun (w' : World) (hb' : Below w.heap.size w w') => conv_some x w' p hxs (HL.out.below hb') hp
        cases hq : Num.parse y.toList with
        | some q =>
          have cy := fun (w' : World) (hb' : Below w.heap.size w w') => conv_some y w' q hys (HL.out.below hb') hq
          rw [pyC_nn hp hq] at st
          have cm0 := fun b1 b2 w' h1 h2 => cm p q b1 b2 w' h1 h2
          clear cm
          rcases cI_cmp.rng p q with hz | hz | hz
          · rw [hz] at st cm0
            clear hz
            rw [if_neg (by decide)] at st
            have ST := Aside0.mk (EP.out.trans st)
            clear st hp hq
            go_wp2_with (first | (go_at_call 39; (with_reducible refine (cx _ BL0.out).mono ?_); rintro e w1 ⟨bx, rfl, q1, d1⟩; have BL1 := Aside0.mk (below_then BL0.out BS0.out d1); have BS1 := Aside0.mk (Nat.le_trans BS0.out d1.size); have D1 := Aside0.mk d1; have Q1 := Aside0.mk q1; clear d1 q1; have yc1 := cellY.out _ BL1.out; have yl1 := F1.out _ BL1.out) | (go_at_call 39; (with_reducible refine (cy _ BL1.out).mono ?_); rintro e w2 ⟨by_, rfl, q2, d2⟩; have BL2 := Aside0.mk (below_then BL1.out BS1.out d2); have BS2 := Aside0.mk (Nat.le_trans BS1.out d2.size); have D2 := Aside0.mk d2; have Q2 := Aside0.mk q2; clear d2 q2; have xc2 := cellX.out _ BL2.out; have yc2 := cellY.out _ BL2.out; have xl2 := F0.out _ BL2.out; have yl2 := F1.out _ BL2.out) | (go_at_call 40; (with_reducible refine (cm0 _ _ _ (Q1.out.below D2.out) Q2.out).mono ?_); rintro e w3 ⟨rfl, d3⟩; have BL3 := Aside0.mk (below_then BL2.out BS2.out d3.below); clear d3))
            go_ret
            exact ⟨by rw [ST.out]; rfl, below_then B2.out B2.out.size BL3.out⟩
          · rw [hz] at st cm0
            clear hz
            rw [if_pos (by decide)] at st
            have ST := Aside0.mk st
            clear st hp hq
            go_wp2_with (first | (go_at_call 39; (with_reducible refine (cx _ BL0.out).mono ?_); rintro e w1 ⟨bx, rfl, q1, d1⟩; have BL1 := Aside0.mk (below_then BL0.out BS0.out d1); have BS1 := Aside0.mk (Nat.le_trans BS0.out d1.size); have D1 := Aside0.mk d1; have Q1 := Aside0.mk q1; clear d1 q1; have yc1 := cellY.out _ BL1.out; have yl1 := F1.out _ BL1.out) | (go_at_call 39; (with_reducible refine (cy _ BL1.out).mono ?_); rintro e w2 ⟨by_, rfl, q2, d2⟩; have BL2 := Aside0.mk (below_then BL1.out BS1.out d2); have BS2 := Aside0.mk (Nat.le_trans BS1.out d2.size); have D2 := Aside0.mk d2; have Q2 := Aside0.mk q2; clear d2 q2; have xc2 := cellX.out _ BL2.out; have yc2 := cellY.out _ BL2.out; have xl2 := F0.out _ BL2.out; have yl2 := F1.out _ BL2.out) | (go_at_call 40; (with_reducible refine (cm0 _ _ _ (Q1.out.below D2.out) Q2.out).mono ?_); rintro e w3 ⟨rfl, d3⟩; have BL3 := Aside0.mk (below_then BL2.out BS2.out d3.below); clear d3))
            rw [wk]
            exact ⟨⟨k + 1, rfl, kn, BL3.out, ST.out.symm⟩, by simp only [intOf]; omega⟩
          · rw [hz] at st cm0
            clear hz
            rw [if_neg (by decide)] at st
            have ST := Aside0.mk (EP.out.trans st)
            clear st hp hq
            go_wp2_with (first | (go_at_call 39; (with_reducible refine (cx _ BL0.out).mono ?_); rintro e w1 ⟨bx, rfl, q1, d1⟩; have BL1 := Aside0.mk (below_then BL0.out BS0.out d1); have BS1 := Aside0.mk (Nat.le_trans BS0.out d1.size); have D1 := Aside0.mk d1; have Q1 := Aside0.mk q1; clear d1 q1; have yc1 := cellY.out _ BL1.out; have yl1 := F1.out _ BL1.out) | (go_at_call 39; (with_reducible refine (cy _ BL1.out).mono ?_); rintro e w2 ⟨by_, rfl, q2, d2⟩; have BL2 := Aside0.mk (below_then BL1.out BS1.out d2); have BS2 := Aside0.mk (Nat.le_trans BS1.out d2.size); have D2 := Aside0.mk d2; have Q2 := Aside0.mk q2; clear d2 q2; have xc2 := cellX.out _ BL2.out; have yc2 := cellY.out _ BL2.out; have xl2 := F0.out _ BL2.out; have yl2 := F1.out _ BL2.out) | (go_at_call 40; (with_reducible refine (cm0 _ _ _ (Q1.out.below D2.out) Q2.out).mono ?_); rintro e w3 ⟨rfl, d3⟩; have BL3 := Aside0.mk (below_then BL2.out BS2.out d3.below); clear d3))
            go_ret
            exact ⟨by rw [ST.out]; rfl, below_then B2.out B2.out.size BL3.out⟩
        | none =>
          have cy := fun (w' : World) (hb' : Below w.heap.size w w') => conv_none y w' hys (HL.out.below hb') hq
          rw [pyC_nt hp hq] at st
          clear cm
          rw [if_neg (by decide)] at st
          have ST := Aside0.mk (EP.out.trans st)
          clear st hp hq
          go_wp2_with (first | (go_at_call 39; (with_reducible refine (cx _ BL0.out).mono ?_); rintro e w1 ⟨bx, rfl, q1, d1⟩; have BL1 := Aside0.mk (below_then BL0.out BS0.out d1); have BS1 := Aside0.mk (Nat.le_trans BS0.out d1.size); have D1 := Aside0.mk d1; have Q1 := Aside0.mk q1; clear d1 q1; have yc1 := cellY.out _ BL1.out; have yl1 := F1.out _ BL1.out) | (go_at_call 39; (with_reducible refine (cy _ BL1.out).mono ?_); rintro e w2 ⟨er2, rfl, d2⟩; have BL2 := Aside0.mk (below_then BL1.out BS1.out d2); have BS2 := Aside0.mk (Nat.le_trans BS1.out d2.size); clear d2; have xc2 := cellX.out _ BL2.out; have yc2 := cellY.out _ BL2.out; have xl2 := F0.out _ BL2.out; have yl2 := F1.out _ BL2.out))
          go_ret
          exact ⟨by rw [ST.out]; rfl, below_then B2.out B2.out.size BL2.out⟩
      | none =>
        have cx := fun (w' : World) (hb' : Below w.heap.size w w') => conv_none x w' hxs (HL.out.below hb') hp
        clear cm
        cases hq : Num.parse y.toList with
        | some q =>
          have cy := fun (w' : World) (hb' : Below w.heap.size w w') => conv_some y w' q hys (HL.out.below hb') hq
          rw [pyC_tn hp hq] at st
          rw [if_neg (by decide)] at st
          have ST := Aside0.mk (EP.out.trans st)
          clear st hp hq
          go_wp2_with (first | (go_at_call 39; (with_reducible refine (cx _ BL0.out).mono ?_); rintro e w1 ⟨er1, rfl, d1⟩; have BL1 := Aside0.mk (below_then BL0.out BS0.out d1); have BS1 := Aside0.mk (Nat.le_trans BS0.out d1.size); clear d1; have yc1 := cellY.out _ BL1.out; have yl1 := F1.out _ BL1.out) | (go_at_call 39; (with_reducible refine (cy _ BL1.out).mono ?_); rintro e w2 ⟨by_, rfl, q2, d2⟩; have BL2 := Aside0.mk (below_then BL1.out BS1.out d2); have BS2 := Aside0.mk (Nat.le_trans BS1.out d2.size); have D2 := Aside0.mk d2; have Q2 := Aside0.mk q2; clear d2 q2; have xc2 := cellX.out _ BL2.out; have yc2 := cellY.out _ BL2.out; have xl2 := F0.out _ BL2.out; have yl2 := F1.out _ BL2.out))
          go_ret
          exact ⟨by rw [ST.out]; rfl, below_then B2.out B2.out.size BL2.out⟩
        | none =>
          have cy := fun (w' : World) (hb' : Below w.heap.size w w') => conv_none y w' hys (HL.out.below hb') hq
          have sc0 := fun w => Tryz.strings_Compare x y w
          simp only [compare_cS, ← toList_eq'] at sc0
          rw [pyC_tt hp hq] at st
          rcases cS_cmp.rng x.toList y.toList with hz | hz | hz
          · rw [hz] at st
            simp only [hz] at sc0
            clear hz
            rw [if_neg (by decide)] at st
            have ST := Aside0.mk (EP.out.trans st)
            clear st hp hq
            go_wp2_with (first | (go_at_call 39; (with_reducible refine (cx _ BL0.out).mono ?_); rintro e w1 ⟨er1, rfl, d1⟩; have BL1 := Aside0.mk (below_then BL0.out BS0.out d1); have BS1 := Aside0.mk (Nat.le_trans BS0.out d1.size); clear d1; have yc1 := cellY.out _ BL1.out; have yl1 := F1.out _ BL1.out) | (go_at_call 39; (with_reducible refine (cy _ BL1.out).mono ?_); rintro e w2 ⟨er2, rfl, d2⟩; have BL2 := Aside0.mk (below_then BL1.out BS1.out d2); have BS2 := Aside0.mk (Nat.le_trans BS1.out d2.size); clear d2; have xc2 := cellX.out _ BL2.out; have yc2 := cellY.out _ BL2.out; have xl2 := F0.out _ BL2.out; have yl2 := F1.out _ BL2.out))
            go_quiet ((go_at_call 41; exact Calls.quiet_of_same (sc0 _)))
            go_wp2_with fail
            go_ret
            exact ⟨by rw [ST.out]; rfl, below_then B2.out B2.out.size (pw_below_drewN BL2.out _)⟩
          · rw [hz] at st
            simp only [hz] at sc0
            clear hz
            rw [if_pos (by decide)] at st
            have ST := Aside0.mk st
            clear st hp hq
            go_wp2_with (first | (go_at_call 39; (with_reducible refine (cx _ BL0.out).mono ?_); rintro e w1 ⟨er1, rfl, d1⟩; have BL1 := Aside0.mk (below_then BL0.out BS0.out d1); have BS1 := Aside0.mk (Nat.le_trans BS0.out d1.size); clear d1; have yc1 := cellY.out _ BL1.out; have yl1 := F1.out _ BL1.out) | (go_at_call 39; (with_reducible refine (cy _ BL1.out).mono ?_); rintro e w2 ⟨er2, rfl, d2⟩; have BL2 := Aside0.mk (below_then BL1.out BS1.out d2); have BS2 := Aside0.mk (Nat.le_trans BS1.out d2.size); clear d2; have xc2 := cellX.out _ BL2.out; have yc2 := cellY.out _ BL2.out; have xl2 := F0.out _ BL2.out; have yl2 := F1.out _ BL2.out))
            go_quiet ((go_at_call 41; exact Calls.quiet_of_same (sc0 _)))
            go_wp2_with fail
            rw [wk]
            exact ⟨⟨k + 1, rfl, kn, pw_below_drewN BL2.out _, ST.out.symm⟩, by simp only [intOf]; omega⟩
          · rw [hz] at st
            simp only [hz] at sc0
            clear hz
            rw [if_neg (by decide)] at st
            have ST := Aside0.mk (EP.out.trans st)
            clear st hp hq
            go_wp2_with (first | (go_at_call 39; (with_reducible refine (cx _ BL0.out).mono ?_); rintro e w1 ⟨er1, rfl, d1⟩; have BL1 := Aside0.mk (below_then BL0.out BS0.out d1); have BS1 := Aside0.mk (Nat.le_trans BS0.out d1.size); clear d1; have yc1 := cellY.out _ BL1.out; have yl1 := F1.out _ BL1.out) | (go_at_call 39; (with_reducible refine (cy _ BL1.out).mono ?_); rintro e w2 ⟨er2, rfl, d2⟩; have BL2 := Aside0.mk (below_then BL1.out BS1.out d2); have BS2 := Aside0.mk (Nat.le_trans BS1.out d2.size); clear d2; have xc2 := cellX.out _ BL2.out; have yc2 := cellY.out _ BL2.out; have xl2 := F0.out _ BL2.out; have yl2 := F1.out _ BL2.out))
            go_quiet ((go_at_call 41; exact Calls.quiet_of_same (sc0 _)))
            go_wp2_with fail
            go_ret
            exact ⟨by rw [ST.out]; rfl, below_then B2.out B2.out.size (pw_below_drewN BL2.out _)⟩
    · have e : k = n := by omega
      have le := lo_end pyC (tl a) (tl b) k (by rw [e, tl_len, tl_len]; exact EN.out)
      rw [hlex, tl_len, tl_len] at le
      have f4 : ¬ (k : Int) < (n : Int) := by omega
      have LE := Aside0.mk le
      have xl0 := F0.out _ hbw
      have yl0 := F1.out _ hbw
      clear hlex hbw le ha hb la lb hn e hlt
      rcases Nat.lt_trichotomy a.length b.length with h1 | h1 | h1
      · have g1 : decide ((a.length : Int) > (b.length : Int)) = false := decide_eq_false (by omega)
        have g3 : decide (b.length < a.length) = false := decide_eq_false (by omega)
        have g2 : decide (a.length < b.length) = true := decide_eq_true h1
        have LC := Aside0.mk (LE.out.trans (cI_neg.2 (by omega)))
        go_wp2_with fail
        go_ret
        exact ⟨by rw [LC.out]; rfl, below_then B2.out B2.out.size BL0.out⟩
      · have g3 : decide (b.length < a.length) = false := decide_eq_false (by omega)
        have g2 : decide (a.length < b.length) = false := decide_eq_false (by omega)
        have LC := Aside0.mk (LE.out.trans (cI_zero.2 (by omega)))
        have H1 := Aside0.mk h1
        clear h1
        go_wp2_with fail
        go_ret
        exact ⟨by rw [LC.out]; rfl, below_then B2.out B2.out.size BL0.out⟩
      · have g3 : decide (b.length < a.length) = true := decide_eq_true h1
        have LC := Aside0.mk (LE.out.trans (cI_pos.2 (by omega)))
        go_wp2_with fail
        go_ret
        exact ⟨by rw [LC.out]; rfl, below_then B2.out B2.out.size BL0.out⟩
end Go.Proofs.YtfmndbmlpfgbnaaGreatDoor.Giv
