/- Contracts by hand: which of two versions of Maven, given by their tokens, is the smaller one, where the first tokens that differ are qualifiers with one prefix. -/
import Derived.Test.YtkecmlpihnjjgaaDoorLGivMl
namespace Go.Proofs.YtkecmlpihnjjgaaDoor.Giv
open Go.RowKit Go.Proofs.YtkecmlpihnjjgaaDoorW.PrintWords Go.Proofs.YtkecmlpihnjjgaaDoorW.PrintLast Go.Proofs.YtkecmlpihnjjgaaDoor.Pk Go.Proofs.YtkecmlpihnjjgaaDoor.Ord Go.Proofs.YtkecmlpihnjjgaaDoor.QL
set_option linter.unusedVariables false
set_option linter.unusedSimpArgs false

/-- Three cells of a block written. -/
abbrev put3 (w : World) (g : Nat) (a b c : Value) : World := ((w.setCell ⟨g, 0, none⟩ a).setCell ⟨g, 1, none⟩ b).setCell ⟨g, 2, none⟩ c
theorem put3_blk {w : World} {g t : Nat} {s u v : Value} (h : w.heap[g]? = some (Obj.cells #[s, u, v] t (0, 0))) (a b c : Value) : (put3 w g a b c).heap[g]? = some (Obj.cells #[a, b, c] t (0, 0)) := by
  have k1 := blk_put (cs := #[s, u, v]) h 0 a rfl
  have k2 := blk_put (cs := #[a, u, v]) k1 1 b rfl
  exact blk_put (cs := #[a, b, v]) k2 2 c rfl
theorem put3_ne {w : World} {g : Nat} (a b c : Value) {k : Nat} (hk : g ≠ k) : (put3 w g a b c).heap[k]? = w.heap[k]? := by
  have e : ∀ (i : Nat) (W : World) (u : Value), (W.setCell ⟨g, i, none⟩ u).heap[k]? = W.heap[k]? := fun i W u => Below.heap_setCell W ⟨g, i, none⟩ u k (fun e => hk e.symm)
  exact (e 2 _ c).trans ((e 1 _ b).trans (e 0 _ a))
theorem put3_below {B : Nat} {a w : World} {g : Nat} (x y z : Value) (h : Below B a w) (hg : B ≤ g) : Below B a (put3 w g x y z) :=
  ((h.setCell (p := ⟨g, 0, none⟩) hg _).setCell (p := ⟨g, 1, none⟩) hg _).setCell (p := ⟨g, 2, none⟩) hg _
/-- The two boxed lists, and the two tokens' own blocks. -/
def B4 (w wr : World) (A B : Option Addr) (n n' c d : Nat) : Prop :=
  wr.heap[w.heap.size]? = some (Obj.cells #[.slice A n c] 43) ∧ wr.heap[w.heap.size + 1]? = some (Obj.cells #[.slice B n' d] 43) ∧ (∃ s u v, wr.heap[w.heap.size + 1 + 1]? = some (Obj.cells #[s, u, v] 60)) ∧ (∃ s u v, wr.heap[w.heap.size + 1 + 1 + 1]? = some (Obj.cells #[s, u, v] 60))
theorem w4 (A B : Option Addr) (n n' c d : Nat) (w : World) : B4 w ((((w.alloc (Obj.cells #[.slice A n c] 43)).alloc (Obj.cells #[.slice B n' d] 43)).alloc (Obj.cells #[Value.string ⟨#[]⟩, Value.string ⟨#[]⟩, Value.bool false] 60)).alloc (Obj.cells #[Value.string ⟨#[]⟩, Value.string ⟨#[]⟩, Value.bool false] 60)) A B n n' c d := by
  refine ⟨blk_alloc (blk_alloc (blk_alloc (blk_new w _) _) _) _, ?_, ⟨.string ⟨#[]⟩, .string ⟨#[]⟩, .bool false, ?_⟩, ⟨.string ⟨#[]⟩, .string ⟨#[]⟩, .bool false, ?_⟩⟩
  · refine blk_alloc (blk_alloc ?_ _) _
    have := blk_new (w.alloc (Obj.cells #[.slice A n c] 43)) (Obj.cells #[.slice B n' d] 43)
    simpa using this
  · refine blk_alloc ?_ _
    have := blk_new ((w.alloc (Obj.cells #[.slice A n c] 43)).alloc (Obj.cells #[.slice B n' d] 43)) (Obj.cells #[Value.string ⟨#[]⟩, Value.string ⟨#[]⟩, Value.bool false] 60)
    simpa using this
  · have := blk_new (((w.alloc (Obj.cells #[.slice A n c] 43)).alloc (Obj.cells #[.slice B n' d] 43)).alloc (Obj.cells #[Value.string ⟨#[]⟩, Value.string ⟨#[]⟩, Value.bool false] 60)) (Obj.cells #[Value.string ⟨#[]⟩, Value.string ⟨#[]⟩, Value.bool false] 60)
    simpa using this
set_option maxRecDepth 100000 in
set_option maxHeartbeats 8000000 in
theorem mlt_calls (A B : Option Addr) (c d : Nat) (l m : List S60) (n q : Nat) (e0 : n = l.length) (e1 : n = m.length) (w : World) (hA : Kd.C k60 w A l.length l) (hB : Kd.C k60 w B m.length m) (hl : l.length ≤ 100000)
    (x y : S60) (hx : l[q]? = some x) (hy : m[q]? = some y) (hq : ∀ (i : Nat) (x y : S60), i < q → l[i]? = some x → m[i]? = some y → tkE x y = true) (hne : tkE x y = false) (hp : y.f0 = x.f0) (sx : x.f1.size ≤ 40000) (sy : y.f1.size ≤ 40000) (hL : LaidK w) (px : Num.parse x.f1.toList = none) (py : Num.parse y.f1.toList = none) :
    Calls Tryd.prog 35 #[.agg #[.slice A n c], .agg #[.slice B n d]] w fun e w' => e = .returned (.tuple #[.bool (tlt x.f1 y.f1), .nilIface]) ∧ Below w.heap.size w w' := by
  have hqn : q < n := by rw [e0]; exact (List.getElem?_eq_some_iff.1 hx).1
  have b1 := below_alloc (Below.refl w.heap.size w) (Obj.cells #[.slice A n c] 43)
  have b2 := below_alloc b1 (Obj.cells #[.slice B n d] 43)
  have k1 : ((w.alloc (Obj.cells #[.slice A n c] 43)).alloc (Obj.cells #[.slice B n d] 43)).heap[w.heap.size]? = some (Obj.cells #[.slice A n c] 43) := blk_alloc (blk_new w _) _
  have m1 : ((w.alloc (Obj.cells #[.slice A n c] 43)).alloc (Obj.cells #[.slice B n d] 43)).heap[w.heap.size + 1]? = some (Obj.cells #[.slice B n d] 43) := by
    have := blk_new (w.alloc (Obj.cells #[.slice A n c] 43)) (Obj.cells #[.slice B n d] 43)
    simpa using this
  have q0 := blk_cell k1 0
  have q1 := blk_cell m1 0
  have B2 := Aside0.mk b2
  have HA := Aside0.mk hA
  have HB := Aside0.mk hB
  have K1 := Aside0.mk k1
  have M1 := Aside0.mk m1
  have E0 := Aside0.mk e0
  have E1 := Aside0.mk e1
  have LL := Aside0.mk hl
  have HX := Aside0.mk hx
  have HY := Aside0.mk hy
  have HQ := Aside0.mk hq
  have HN := Aside0.mk hne
  have QN := Aside0.mk hqn
  have TL := Aside0.mk (fun (p : Addr) (b : Bool) (w' : World) (h : Below w.heap.size w w') (h0 : w'.cell? p = some (.string x.f0)) (h1 : w'.cell? ⟨p.block, p.off + 1, none⟩ = some (.string x.f1)) => tlt_calls p x.f0 x.f1 y.f1 b w' h0 h1 sx sy (hL.below h) px py)
  clear b1 b2 k1 m1 hA hB e0 e1 hl hx hy hq hne sx sy hL px py hqn
  go_enter Tryd.func35, Tryd.ntmps35
  go_wp2_with fail
  clear q0 q1
  have L0 := Aside0.mk (below_alloc (below_alloc B2.out (Obj.cells #[Value.string ⟨#[]⟩, Value.string ⟨#[]⟩, Value.bool false] 60)) (Obj.cells #[Value.string ⟨#[]⟩, Value.string ⟨#[]⟩, Value.bool false] 60))
  have W0 := w4 A B n n c d w
  go_loopw [9, 10, 19] (fun v9 v10 v19 wr => ∃ j : Nat, v9 = .nilIface ∧ v19 = .int .i64 j ∧ j ≤ q ∧ Below w.heap.size w wr ∧ B4 w wr A B n n c d) (fun v9 v10 v19 wr => n - (intOf v19).toNat)
  case atStart => exact ⟨0, rfl, rfl, Nat.zero_le _, L0.out, W0⟩
  case round =>
    obtain ⟨j, rfl, rfl, hj, hb, f0, f1, ⟨s2, u2, r2, f2⟩, ⟨s3, u3, r3, f3⟩⟩ := hrel
    clear W0
    have jn : j < n := Nat.lt_of_le_of_lt hj QN.out
    have jl : j < l.length := by rw [← E0.out]; exact jn
    have jm : j < m.length := by rw [← E1.out]; exact jn
    obtain ⟨ad, rfl, cx0, cx1, cx2⟩ := at_T60 (Kd.C_below HA.out hb) (j : Int) (by omega) (by omega)
    have rx : rd_T60 l (j : Int) = l[j]'jl := by
      unfold rd_T60
      rw [Int.toNat_natCast, List.getD_eq_getElem?_getD, List.getElem?_eq_getElem jl]
      rfl
    have ry : rd_T60 m (j : Int) = m[j]'jm := by
      unfold rd_T60
      rw [Int.toNat_natCast, List.getD_eq_getElem?_getD, List.getElem?_eq_getElem jm]
      rfl
    rw [rx, Int.toNat_natCast] at cx0 cx1 cx2
    have z0 := blk_cell f0 0
    have z1 := blk_cell f1 0
    have z20 := blk_cell f2 0
    have z21 := blk_cell f2 1
    have z22 := blk_cell f2 2
    have y20 := blk_frozen f2 0
    have y21 := blk_frozen f2 1
    have y22 := blk_frozen f2 2
    have g4 : (j : Int) < (n : Int) := Int.ofNat_lt.2 jn
    have g5 : ¬ (n : Int) ≤ (j : Int) := Int.not_le.2 g4
    clear rx
    go_upto_region 13 with (fail)
    have lw : w.heap.size ≤ w.heap.size + 1 + 1 := by omega
    have lw3 : w.heap.size ≤ w.heap.size + 1 + 1 + 1 := by omega
    have hb1 := put3_below (.string (l[j]'jl).f0) (.string (l[j]'jl).f1) (.bool (l[j]'jl).f2) hb lw
    have o0 := (put3_ne (w := wr) (g := w.heap.size + 1 + 1) (.string (l[j]'jl).f0) (.string (l[j]'jl).f1) (.bool (l[j]'jl).f2) (k := w.heap.size) (by omega)).trans f0
    have o1 := (put3_ne (w := wr) (g := w.heap.size + 1 + 1) (.string (l[j]'jl).f0) (.string (l[j]'jl).f1) (.bool (l[j]'jl).f2) (k := w.heap.size + 1) (by omega)).trans f1
    have o2 := put3_blk f2 (.string (l[j]'jl).f0) (.string (l[j]'jl).f1) (.bool (l[j]'jl).f2)
    have o3 := (put3_ne (w := wr) (g := w.heap.size + 1 + 1) (.string (l[j]'jl).f0) (.string (l[j]'jl).f1) (.bool (l[j]'jl).f2) (k := w.heap.size + 1 + 1 + 1) (by omega)).trans f3
    clear cx0 cx1 cx2 z0 z1 z20 z21 z22 y20 y21 y22 f0 f1 f2 f3 hb
    dsimp only [put3] at hb1 o0 o1 o2 o3
    generalize ((wr.setCell ⟨w.heap.size + 1 + 1, 0, none⟩ (.string (l[j]'jl).f0)).setCell ⟨w.heap.size + 1 + 1, 1, none⟩ (.string (l[j]'jl).f1)).setCell ⟨w.heap.size + 1 + 1, 2, none⟩ (.bool (l[j]'jl).f2) = w1 at *
    obtain ⟨ad2, rfl, cy0, cy1, cy2⟩ := at_T60 (Kd.C_below HB.out hb1) (j : Int) (by omega) (by omega)
    rw [ry, Int.toNat_natCast] at cy0 cy1 cy2
    have z0 := blk_cell o0 0
    have z1 := blk_cell o1 0
    have z30 := blk_cell o3 0
    have z31 := blk_cell o3 1
    have z32 := blk_cell o3 2
    have y30 := blk_frozen o3 0
    have y31 := blk_frozen o3 1
    have y32 := blk_frozen o3 2
    clear ry
    go_upto_region 18 with (fail)
    have hb2 := put3_below (.string (m[j]'jm).f0) (.string (m[j]'jm).f1) (.bool (m[j]'jm).f2) hb1 lw3
    have n0 := (put3_ne (w := w1) (g := w.heap.size + 1 + 1 + 1) (.string (m[j]'jm).f0) (.string (m[j]'jm).f1) (.bool (m[j]'jm).f2) (k := w.heap.size) (by omega)).trans o0
    have n1 := (put3_ne (w := w1) (g := w.heap.size + 1 + 1 + 1) (.string (m[j]'jm).f0) (.string (m[j]'jm).f1) (.bool (m[j]'jm).f2) (k := w.heap.size + 1) (by omega)).trans o1
    have n2 := (put3_ne (w := w1) (g := w.heap.size + 1 + 1 + 1) (.string (m[j]'jm).f0) (.string (m[j]'jm).f1) (.bool (m[j]'jm).f2) (k := w.heap.size + 1 + 1) (by omega)).trans o2
    have n3 := put3_blk o3 (.string (m[j]'jm).f0) (.string (m[j]'jm).f1) (.bool (m[j]'jm).f2)
    clear cy0 cy1 cy2 z0 z1 z30 z31 z32 y30 y31 y32 o0 o1 o2 o3 hb1 lw lw3 g5
    dsimp only [put3] at hb2 n0 n1 n2 n3
    generalize ((w1.setCell ⟨w.heap.size + 1 + 1 + 1, 0, none⟩ (.string (m[j]'jm).f0)).setCell ⟨w.heap.size + 1 + 1 + 1, 1, none⟩ (.string (m[j]'jm).f1)).setCell ⟨w.heap.size + 1 + 1 + 1, 2, none⟩ (.bool (m[j]'jm).f2) = w2 at *
    have T1 := Aside0.mk (teq_calls ⟨w.heap.size + 1 + 1, 0, none⟩ (l[j]'jl).f0 (l[j]'jl).f1 (m[j]'jm).f0 (m[j]'jm).f1 (m[j]'jm).f2 w2 (blk_cell n2 0) (blk_cell n2 1))
    have z30 := blk_cell n3 0
    have z31 := blk_cell n3 1
    have z32 := blk_cell n3 2
    have N0 := Aside0.mk n0
    have N1 := Aside0.mk n1
    have N2 := Aside0.mk n2
    have N3 := Aside0.mk n3
    have H2 := Aside0.mk hb2
    clear n0 n1 n2 n3 hb2
    rcases Nat.lt_or_ge j q with hjq | hjq
    · have ht := HQ.out j _ _ hjq (List.getElem?_eq_getElem jl) (List.getElem?_eq_getElem jm)
      have hte : ((l[j]'jl).f0.toList == (m[j]'jm).f0.toList && (l[j]'jl).f1.toList == (m[j]'jm).f1.toList) = true := ht
      have wk : wrap64 ((j : Int) + 1) = ((j + 1 : Nat) : Int) := Pk.wr j (by have := LL.out; omega)
      have JQ := Aside0.mk (show j + 1 ≤ q from hjq)
      have JN := Aside0.mk (show j + 1 ≤ n from jn)
      clear ht hjq hj jn
      go_wp2_with (first | (go_at_call 39; (with_reducible refine T1.out.mono ?_); rintro e w3 ⟨rfl, d3⟩; have D3 := Aside0.mk d3; clear d3))
      go_roundw
      case rel =>
        have BB : ∀ k o, w2.heap[k]? = some o → w3.heap[k]? = some o := fun k o h => (D3.out.block k (Array.getElem?_eq_some_iff.1 h).1).trans h
        exact ⟨j + 1, rfl, by rw [wk], JQ.out, below_then H2.out H2.out.size D3.out, BB _ _ N0.out, BB _ _ N1.out, ⟨_, _, _, BB _ _ N2.out⟩, ⟨_, _, _, BB _ _ N3.out⟩⟩
      case measure =>
        rw [wk]
        exact meas_lt JN.out
    · obtain rfl : j = q := Nat.le_antisymm hj hjq
      have ex : l[j]'jl = x := by
        have := HX.out
        rw [List.getElem?_eq_getElem jl] at this
        exact Option.some.inj this
      have ey : m[j]'jm = y := by
        have := HY.out
        rw [List.getElem?_eq_getElem jm] at this
        exact Option.some.inj this
      rw [ex] at T1 N2
      rw [ey] at T1 N3 z30 z31 z32
      rw [ex, ey]
      have hte : (x.f0.toList == y.f0.toList && x.f1.toList == y.f1.toList) = false := HN.out
      rw [hp] at T1 N3 z30 hte
      rw [hte] at T1
      clear hte
      clear hj hjq jn jl jm ex ey
      go_wp2_with (first | (go_at_call 39; (with_reducible refine T1.out.mono ?_); rintro e w3 ⟨rfl, d3⟩; have D3 := Aside0.mk d3; have v2 := blk_below N2.out d3; have v3 := blk_below N3.out d3; clear z30 z31 z32; have z30 := blk_cell v3 0; have z31 := blk_cell v3 1; have z32 := blk_cell v3 2; have V20 := Aside0.mk ((blk_cell v2 0).trans rfl : w3.cell? ⟨w.heap.size + 1 + 1, 0, none⟩ = some (.string x.f0)); have V21 := Aside0.mk ((blk_cell v2 1).trans rfl : w3.cell? ⟨w.heap.size + 1 + 1, 0 + 1, none⟩ = some (.string x.f1)); clear d3 v2 v3) | (go_at_call 41; (with_reducible refine (TL.out ⟨w.heap.size + 1 + 1, 0, none⟩ _ _ (below_then H2.out H2.out.size D3.out) V20.out V21.out).mono ?_); rintro e w4 ⟨rfl, d4⟩; have D4 := Aside0.mk (below_then (below_then H2.out H2.out.size D3.out) (below_then H2.out H2.out.size D3.out).size d4); clear d4))
      go_ret2
      exact ⟨rfl, D4.out⟩
end Go.Proofs.YtkecmlpihnjjgaaDoor.Giv
