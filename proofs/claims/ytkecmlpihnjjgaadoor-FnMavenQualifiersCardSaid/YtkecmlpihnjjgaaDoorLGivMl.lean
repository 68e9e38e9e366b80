/- Contracts by hand: which of two tokens of Maven with one prefix, both qualifiers, is the smaller one. -/
import Derived.Test.YtkecmlpihnjjgaaDoorLGivMq
namespace Go.Proofs.YtkecmlpihnjjgaaDoor.Giv
open Go.RowKit Go.Proofs.YtkecmlpihnjjgaaDoorW.PrintWords Go.Proofs.YtkecmlpihnjjgaaDoorW.PrintLast Go.Proofs.YtkecmlpihnjjgaaDoor.Pk Go.Proofs.YtkecmlpihnjjgaaDoor.Ord Go.Proofs.YtkecmlpihnjjgaaDoor.QL
set_option linter.unusedVariables false
set_option linter.unusedSimpArgs false

/-- Is a qualifier the smaller one: by the places of the known ones, else by the letters? -/
def tlt (a b : ByteArray) : Bool := if kwN a = 7 ∧ kwN b = 7 then Op.bytesLess a.toList b.toList else decide (kwN a < kwN b)
theorem LaidK.at {w w' : World} (h : LaidK w) (d : Below w.heap.size w w') : ∃ (A : Option Addr) (c : Nat), w'.cell? ⟨0, 0, none⟩ = some (.slice A 7 c) := by
  obtain ⟨A, c, h1, _⟩ := (h.below d).kw
  exact ⟨A, c, h1⟩
theorem bel_thenN {n : Nat} {a w w1 : World} (h : Below a.heap.size a w) (d : Below (w.drewN n).heap.size (w.drewN n) w1) : Below a.heap.size a w1 := below_then (bel_drewN h n) (bel_drewN h n).size d
set_option maxRecDepth 100000 in
set_option maxHeartbeats 8000000 in
theorem tlt_calls (p : Addr) (q a b : ByteArray) (m : Bool) (w : World) (h0 : w.cell? p = some (.string q)) (h1 : w.cell? ⟨p.block, p.off + 1, none⟩ = some (.string a)) (ha : a.size ≤ 40000) (hb : b.size ≤ 40000) (hL : LaidK w) (pa : Num.parse a.toList = none) (pb : Num.parse b.toList = none) :
    Calls Tryd.prog 41 #[.pointer (some p), .agg (tkA q b m)] w fun e w' => e = .returned (.tuple #[.bool (tlt a b), .nilIface]) ∧ Below w.heap.size w w' := by
  have B1 := Aside0.mk (below_alloc (Below.refl w.heap.size w) (Obj.cells (tkA q b m) 60))
  have k1 : (w.alloc (Obj.cells (tkA q b m) 60)).heap[w.heap.size]? = some (Obj.cells (tkA q b m) 60 (0, 0)) := blk_new w _
  have p0 := pw_cell_below B1.out h0
  have p1 := pw_cell_below B1.out h1
  have P1 := Aside0.mk p1
  have b0 : (w.alloc (Obj.cells (tkA q b m) 60)).cell? ⟨w.heap.size, 0, none⟩ = some (.string q) := (blk_cell k1 0).trans rfl
  have b1 : (w.alloc (Obj.cells (tkA q b m) 60)).cell? ⟨w.heap.size, 1, none⟩ = some (.string b) := (blk_cell k1 1).trans rfl
  have K1 := Aside0.mk b1
  have hq : (q.toList == q.toList) = true := by simp
  obtain ⟨x, hx⟩ : ∃ x, kwN a = x := ⟨_, rfl⟩
  obtain ⟨y, hy⟩ : ∃ y, kwN b = y := ⟨_, rfl⟩
  have fw := fun (w' : World) (d : Below (w.alloc (Obj.cells (tkA q b m) 60)).heap.size (w.alloc (Obj.cells (tkA q b m) 60)) w') => hL.below (below_then B1.out B1.out.size d)
  have CA := Aside0.mk (fun (w' : World) (d : Below (w.alloc (Obj.cells (tkA q b m) 60)).heap.size (w.alloc (Obj.cells (tkA q b m) 60)) w') => conv_none a w' ha (fw w' d).toLaid pa)
  have CB := Aside0.mk (fun (w' : World) (d : Below (w.alloc (Obj.cells (tkA q b m) 60)).heap.size (w.alloc (Obj.cells (tkA q b m) 60)) w') => conv_none b w' hb (fw w' d).toLaid pb)
  have FA := Aside0.mk (fun (w' : World) (d : Below (w.alloc (Obj.cells (tkA q b m) 60)).heap.size (w.alloc (Obj.cells (tkA q b m) 60)) w') => hx ▸ find_calls a w' (fw w' d))
  have FB := Aside0.mk (fun (w' : World) (d : Below (w.alloc (Obj.cells (tkA q b m) 60)).heap.size (w.alloc (Obj.cells (tkA q b m) 60)) w') => hy ▸ find_calls b w' (fw w' d))
  have TG := Aside0.mk (fun (w' : World) (d : Below (w.alloc (Obj.cells (tkA q b m) 60)).heap.size (w.alloc (Obj.cells (tkA q b m) 60)) w') => hL.at (below_then B1.out B1.out.size d))
  have R0 := Aside0.mk (Below.refl (w.alloc (Obj.cells (tkA q b m) 60)).heap.size (w.alloc (Obj.cells (tkA q b m) 60)))
  have hT : ∃ r, tlt a b = r := ⟨_, rfl⟩
  obtain ⟨r, hr⟩ := hT
  rw [hr]
  unfold tlt at hr
  rw [hx, hy] at hr
  have HR := Aside0.mk hr
  clear k1 h0 h1 hL pa pb hx hy ha hb hr fw
  by_cases cx : x = 7
  · have cx' : (x : Int) = 7 := by omega
    by_cases cy : y = 7
    · have cy' : (y : Int) = 7 := by omega
      have T := Aside0.mk (show Op.bytesLess a.toList b.toList = r by
        have := HR.out
        rwa [if_pos ⟨cx, cy⟩] at this)
      clear cx cy HR
      go_enter Tryd.func41, Tryd.ntmps41
      go_wp2_with fail
      go_quiet (fail)
      go_wp2_with (first | (go_at_call 42; (with_reducible refine (CA.out _ (bel_drewN (Below.refl _ _) _)).mono ?_); rintro e w1 ⟨aa, rfl, d1⟩; have D1 := Aside0.mk (bel_thenN R0.out d1); have q1 := pw_cell_below D1.out K1.out; clear d1) | (go_at_call 42; (with_reducible refine (CB.out _ D1.out).mono ?_); rintro e w2 ⟨ab, rfl, d2⟩; have D2 := Aside0.mk (below_then D1.out D1.out.size d2); have z1 := pw_cell_below D2.out P1.out; clear d2) | (go_at_call 31; (with_reducible refine (FA.out _ D2.out).mono ?_); rintro e w3 ⟨rfl, d3⟩; have D3 := Aside0.mk (below_then D2.out D2.out.size d3); have q3 := pw_cell_below D3.out K1.out; clear d3) | (go_at_call 31; (with_reducible refine (FB.out _ D3.out).mono ?_); rintro e w4 ⟨rfl, d4⟩; have D4 := Aside0.mk (below_then D3.out D3.out.size d4); have z4 := pw_cell_below D4.out P1.out; have q4 := pw_cell_below D4.out K1.out; obtain ⟨tA, tc, tg⟩ := TG.out _ D4.out; clear d4))
      go_quiet (fail)
      go_wp2_with fail
      go_ret2
      exact ⟨by rw [← T.out]; rfl, bel_drewN (below_then B1.out B1.out.size D4.out) _⟩
    · have cy' : ¬ ((y : Int) = 7) := by omega
      have T := Aside0.mk (show decide ((7 : Int) < (y : Int)) = r by
        have := HR.out
        rw [if_neg (fun h => cy h.2), cx] at this
        rw [← this]
        exact decide_eq_decide.2 (by omega))
      clear cx cy HR
      go_enter Tryd.func41, Tryd.ntmps41
      go_wp2_with fail
      go_quiet (fail)
      go_wp2_with (first | (go_at_call 42; (with_reducible refine (CA.out _ (bel_drewN (Below.refl _ _) _)).mono ?_); rintro e w1 ⟨aa, rfl, d1⟩; have D1 := Aside0.mk (bel_thenN R0.out d1); have q1 := pw_cell_below D1.out K1.out; clear d1) | (go_at_call 42; (with_reducible refine (CB.out _ D1.out).mono ?_); rintro e w2 ⟨ab, rfl, d2⟩; have D2 := Aside0.mk (below_then D1.out D1.out.size d2); have z1 := pw_cell_below D2.out P1.out; clear d2) | (go_at_call 31; (with_reducible refine (FA.out _ D2.out).mono ?_); rintro e w3 ⟨rfl, d3⟩; have D3 := Aside0.mk (below_then D2.out D2.out.size d3); have q3 := pw_cell_below D3.out K1.out; clear d3) | (go_at_call 31; (with_reducible refine (FB.out _ D3.out).mono ?_); rintro e w4 ⟨rfl, d4⟩; have D4 := Aside0.mk (below_then D3.out D3.out.size d4); have z4 := pw_cell_below D4.out P1.out; have q4 := pw_cell_below D4.out K1.out; obtain ⟨tA, tc, tg⟩ := TG.out _ D4.out; clear d4))
      go_ret2
      exact ⟨by rw [← T.out]; rfl, below_then B1.out B1.out.size D4.out⟩
  · have cx' : ¬ ((x : Int) = 7) := by omega
    have T := Aside0.mk (show decide (x < y) = r by
      have := HR.out
      rwa [if_neg (fun h => cx h.1)] at this)
    clear cx HR
    go_enter Tryd.func41, Tryd.ntmps41
    go_wp2_with fail
    go_quiet (fail)
    go_wp2_with (first | (go_at_call 42; (with_reducible refine (CA.out _ (bel_drewN (Below.refl _ _) _)).mono ?_); rintro e w1 ⟨aa, rfl, d1⟩; have D1 := Aside0.mk (bel_thenN R0.out d1); have q1 := pw_cell_below D1.out K1.out; clear d1) | (go_at_call 42; (with_reducible refine (CB.out _ D1.out).mono ?_); rintro e w2 ⟨ab, rfl, d2⟩; have D2 := Aside0.mk (below_then D1.out D1.out.size d2); have z1 := pw_cell_below D2.out P1.out; clear d2) | (go_at_call 31; (with_reducible refine (FA.out _ D2.out).mono ?_); rintro e w3 ⟨rfl, d3⟩; have D3 := Aside0.mk (below_then D2.out D2.out.size d3); have q3 := pw_cell_below D3.out K1.out; clear d3) | (go_at_call 31; (with_reducible refine (FB.out _ D3.out).mono ?_); rintro e w4 ⟨rfl, d4⟩; have D4 := Aside0.mk (below_then D3.out D3.out.size d4); have z4 := pw_cell_below D4.out P1.out; have q4 := pw_cell_below D4.out K1.out; obtain ⟨tA, tc, tg⟩ := TG.out _ D4.out; clear d4))
    go_ret2
    exact ⟨by rw [← T.out]; rfl, below_then B1.out B1.out.size D4.out⟩
end Go.Proofs.YtkecmlpihnjjgaaDoor.Giv
