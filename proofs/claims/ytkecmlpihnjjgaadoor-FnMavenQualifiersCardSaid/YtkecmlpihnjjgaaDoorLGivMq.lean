/- Contracts by hand: two versions of Maven, given by their tokens, held against each other: are they equal? -/
import Derived.Test.YtkecmlpihnjjgaaDoorGivKw
import Derived.Test.YtkecmlpihnjjgaaDoorQLx
import Derived.Deep.RegionHeld3
namespace Go.Proofs.YtkecmlpihnjjgaaDoor.Giv
open Go.RowKit Go.Proofs.YtkecmlpihnjjgaaDoorW.PrintWords Go.Proofs.YtkecmlpihnjjgaaDoorW.PrintLast Go.Proofs.YtkecmlpihnjjgaaDoor.Pk Go.Proofs.YtkecmlpihnjjgaaDoor.Ord Go.Proofs.YtkecmlpihnjjgaaDoor.QL
set_option linter.unusedVariables false
set_option linter.unusedSimpArgs false

abbrev tkA (p v : ByteArray) (n : Bool) : Array Value := #[.string p, .string v, .bool n]
set_option maxRecDepth 100000 in
set_option maxHeartbeats 2000000 in
theorem teq_calls (p : Addr) (a0 a1 b0 b1 : ByteArray) (b2 : Bool) (w : World) (h0 : w.cell? p = some (.string a0)) (h1 : w.cell? ⟨p.block, p.off + 1, none⟩ = some (.string a1)) :
    Calls Tryd.prog 39 #[.pointer (some p), .agg (tkA b0 b1 b2)] w fun e w' => e = .returned (.bool (a0.toList == b0.toList && a1.toList == b1.toList)) ∧ Below w.heap.size w w' := by
  have B1 := Aside0.mk (below_alloc (Below.refl w.heap.size w) (Obj.cells (tkA b0 b1 b2) 60))
  have p0 := pw_cell_below B1.out h0
  have p1 := pw_cell_below B1.out h1
  clear h0 h1
  cases hx : (a0.toList == b0.toList) with
  | true =>
    go_enter Tryd.func39, Tryd.ntmps39
    go_wp2_with fail
    go_quiet (fail)
    go_wp2_with fail
    go_ret
    exact ⟨by simp, bel_drewN B1.out _⟩
  | false =>
    go_enter Tryd.func39, Tryd.ntmps39
    go_wp2_with fail
    go_quiet (fail)
    go_wp2_with fail
    go_ret
    exact ⟨by simp, bel_drewN B1.out _⟩
theorem meas_lt {n j : Nat} (h : j + 1 ≤ n) : n - (intOf (Value.int IntKind.i64 ((j + 1 : Nat) : Int))).toNat < n - (intOf (Value.int IntKind.i64 (j : Int))).toNat := by
  show n - (((j + 1 : Nat) : Int)).toNat < n - ((j : Nat) : Int).toNat
  rw [Int.toNat_natCast, Int.toNat_natCast]
  exact Nat.sub_lt_sub_left h (Nat.lt_succ_self j)
/-- Are two tokens equal? -/
def tkE (x y : S60) : Bool := x.f0.toList == y.f0.toList && x.f1.toList == y.f1.toList
/-- Does a bool tell whether two lists of tokens are equal? -/
def MEq (l m : List S60) (r : Bool) : Prop := r = true ↔ l.length = m.length ∧ ∀ (i : Nat) (x y : S60), l[i]? = some x → m[i]? = some y → tkE x y = true
def EqR (w : World) (l m : List S60) (e : Ending) (w' : World) : Prop := ∃ r : Bool, e = .returned (.bool r) ∧ MEq l m r ∧ Below w.heap.size w w'
/-- What is kept while two rows are held against each other. -/
theorem soM {w wr a b : World} {p0 p1 p2 p3 p4 p5 p6 : Addr} {x0 x1 x2 x3 x4 x5 x6 : Value} (h : a.cell? p0 = some x0 ∧ a.cell? p1 = some x1 ∧ a.cell? p2 = some x2 ∧ a.cell? p3 = some x3 ∧ a.cell? p4 = some x4 ∧ a.cell? p5 = some x5 ∧ a.cell? p6 = some x6 ∧ Below w.heap.size w a ∧ Below wr.heap.size wr a) (d : Below a.heap.size a b) :
    b.cell? p0 = some x0 ∧ b.cell? p1 = some x1 ∧ b.cell? p2 = some x2 ∧ b.cell? p3 = some x3 ∧ b.cell? p4 = some x4 ∧ b.cell? p5 = some x5 ∧ b.cell? p6 = some x6 ∧ Below w.heap.size w b ∧ Below wr.heap.size wr b :=
  ⟨pw_cell_below d h.1, pw_cell_below d h.2.1, pw_cell_below d h.2.2.1, pw_cell_below d h.2.2.2.1, pw_cell_below d h.2.2.2.2.1, pw_cell_below d h.2.2.2.2.2.1, pw_cell_below d h.2.2.2.2.2.2.1, below_then h.2.2.2.2.2.2.2.1 h.2.2.2.2.2.2.2.1.size d, below_then h.2.2.2.2.2.2.2.2 h.2.2.2.2.2.2.2.2.size d⟩
set_option maxRecDepth 100000 in
set_option maxHeartbeats 8000000 in
theorem meq_calls (A B : Option Addr) (c d : Nat) (l m : List S60) (n0 n1 : Nat) (e0 : n0 = l.length) (e1 : n1 = m.length) (w : World) (hA : Kd.C k60 w A l.length l) (hB : Kd.C k60 w B m.length m) (hl : l.length ≤ 100000) :
    Calls Tryd.prog 34 #[.agg #[.slice A n0 c], .agg #[.slice B n1 d]] w (EqR w l m) := by
  have b1 := below_alloc (Below.refl w.heap.size w) (Obj.cells #[.slice A n0 c] 43)
  have b2 := below_alloc b1 (Obj.cells #[.slice B n1 d] 43)
  have k1 : ((w.alloc (Obj.cells #[.slice A n0 c] 43)).alloc (Obj.cells #[.slice B n1 d] 43)).heap[w.heap.size]? = some (Obj.cells #[.slice A n0 c] 43) := blk_alloc (blk_new w _) _
  have m1 : ((w.alloc (Obj.cells #[.slice A n0 c] 43)).alloc (Obj.cells #[.slice B n1 d] 43)).heap[w.heap.size + 1]? = some (Obj.cells #[.slice B n1 d] 43) := by
    have := blk_new (w.alloc (Obj.cells #[.slice A n0 c] 43)) (Obj.cells #[.slice B n1 d] 43)
    simpa using this
  have q0 := blk_cell k1 0
  have q1 := blk_cell m1 0
  have B2 := Aside0.mk b2
  have HA := Aside0.mk hA
  have HB := Aside0.mk hB
  have Q0 := Aside0.mk q0
  have Q1 := Aside0.mk q1
  have E0 := Aside0.mk e0
  have E1 := Aside0.mk e1
  have LL := Aside0.mk hl
  clear b1 b2 k1 m1 hA hB e0 e1 hl
  by_cases hne : n0 = n1
  · have f0 : ((n0 : Int) = (n1 : Int)) := by omega
    subst hne
    go_enter Tryd.func34, Tryd.ntmps34
    go_wp2_with fail
    clear q0 q1
    go_loopw [5, 16] (fun v5 v16 wr => ∃ j : Nat, v16 = .int .i64 j ∧ j ≤ n0 ∧ (∀ (i : Nat) (x y : S60), i < j → l[i]? = some x → m[i]? = some y → tkE x y = true) ∧ Below w.heap.size w wr ∧ wr.cell? ⟨w.heap.size, 0, none⟩ = some (.slice A n0 c) ∧ wr.cell? ⟨w.heap.size + 1, 0, none⟩ = some (.slice B n0 d)) (fun v5 v16 wr => n0 - (intOf v16).toNat)
    case atStart => exact ⟨0, rfl, Nat.zero_le _, fun i x y hi => absurd hi (Nat.not_lt_zero _), B2.out, Q0.out, Q1.out⟩
    case round =>
      obtain ⟨j, rfl, hj, hk, hb, hq0, hq1⟩ := hrel
      by_cases hlt : j < n0
      · have jl : j < l.length := by rw [← E0.out]; exact hlt
        have jm : j < m.length := by rw [← E1.out]; exact hlt
        have j64 : j < 100000 := Nat.lt_of_lt_of_le jl LL.out
        obtain ⟨ad, rfl, cx0, cx1, cx2⟩ := at_T60 (Kd.C_below HA.out hb) (j : Int) (by omega) (by omega)
        obtain ⟨ad2, rfl, cy0, cy1, cy2⟩ := at_T60 (Kd.C_below HB.out hb) (j : Int) (by omega) (by omega)
        have rx : rd_T60 l (j : Int) = l[j]'jl := by
          unfold rd_T60
          rw [Int.toNat_natCast, List.getD_eq_getElem?_getD, List.getElem?_eq_getElem jl]
          rfl
        have ry : rd_T60 m (j : Int) = m[j]'jm := by
          unfold rd_T60
          rw [Int.toNat_natCast, List.getD_eq_getElem?_getD, List.getElem?_eq_getElem jm]
          rfl
        rw [rx, Int.toNat_natCast] at cx0 cx1 cx2
        rw [ry, Int.toNat_natCast] at cy0 cy1 cy2
        have OKN := Aside0.mk (fun (h : tkE (l[j]'jl) (m[j]'jm) = true) => show ∀ (i : Nat) (x y : S60), i < j + 1 → l[i]? = some x → m[i]? = some y → tkE x y = true from fun i x y hi hx hy => by
          rcases Nat.lt_or_ge i j with h2 | h2
          · exact hk i x y h2 hx hy
          · obtain rfl : i = j := by omega
            rw [List.getElem?_eq_getElem jl] at hx
            rw [List.getElem?_eq_getElem jm] at hy
            rw [← Option.some.inj hx, ← Option.some.inj hy]
            exact h)
        have NO := Aside0.mk (fun (h : tkE (l[j]'jl) (m[j]'jm) = false) => show ¬ (l.length = m.length ∧ ∀ (i : Nat) (x y : S60), l[i]? = some x → m[i]? = some y → tkE x y = true) from fun hh => by
          have := hh.2 j _ _ (List.getElem?_eq_getElem jl) (List.getElem?_eq_getElem jm)
          rw [h] at this
          cases this)
        clear hk rx ry
        generalize l[j]'jl = x at *
        generalize m[j]'jm = y at *
        have g4 : (j : Int) < (n0 : Int) := Int.ofNat_lt.2 hlt
        have wk : wrap64 ((j : Int) + 1) = ((j + 1 : Nat) : Int) := Pk.wr j (by omega)
        have JL := Aside0.mk (show j + 1 ≤ n0 from hlt)
        have CE := Aside0.mk (fun (p : Addr) (a0 a1 b0 b1 : ByteArray) (b2 : Bool) (w : World) h0 h1 => teq_calls p a0 a1 b0 b1 b2 w h0 h1)
        have HD : wr.drew.cell? ⟨w.heap.size, 0, none⟩ = some (.slice (some ad) n0 c) ∧ wr.drew.cell? ⟨w.heap.size + 1, 0, none⟩ = some (.slice (some ad2) n0 d) ∧ wr.drew.cell? (ad.add (j * 3)) = some (.string x.f0) ∧ wr.drew.cell? ⟨(ad.add (j * 3)).block, (ad.add (j * 3)).off + 1, none⟩ = some (.string x.f1) ∧ wr.drew.cell? (ad2.add (j * 3)) = some (.string y.f0) ∧ wr.drew.cell? ⟨(ad2.add (j * 3)).block, (ad2.add (j * 3)).off + 1, none⟩ = some (.string y.f1) ∧ wr.drew.cell? ⟨(ad2.add (j * 3)).block, (ad2.add (j * 3)).off + 2, none⟩ = some (.bool y.f2) ∧ Below w.heap.size w wr.drew ∧ Below wr.heap.size wr wr.drew := soM (a := wr) ⟨hq0, hq1, cx0, cx1, cy0, cy1, cy2, hb, Below.refl _ _⟩ (Below.drew (Below.refl _ _))
        clear hlt hj jl jm j64 cx0 cx1 cx2 cy0 cy1 cy2 hb f0
        cases ht : tkE x y with
        | true => as_aux_lemma =>
          have T := Aside0.mk (OKN.out ht)
          have hte : (x.f0.toList == y.f0.toList && x.f1.toList == y.f1.toList) = true := ht
          clear OKN NO ht
          go_wp2_with fail
          go_region_held3 (fun w' => w'.cell? ⟨w.heap.size, 0, none⟩ = some (.slice (some ad) n0 c) ∧ w'.cell? ⟨w.heap.size + 1, 0, none⟩ = some (.slice (some ad2) n0 d) ∧ w'.cell? (ad.add (j * 3)) = some (.string x.f0) ∧ w'.cell? ⟨(ad.add (j * 3)).block, (ad.add (j * 3)).off + 1, none⟩ = some (.string x.f1) ∧ w'.cell? (ad2.add (j * 3)) = some (.string y.f0) ∧ w'.cell? ⟨(ad2.add (j * 3)).block, (ad2.add (j * 3)).off + 1, none⟩ = some (.string y.f1) ∧ w'.cell? ⟨(ad2.add (j * 3)).block, (ad2.add (j * 3)).off + 2, none⟩ = some (.bool y.f2) ∧ Below w.heap.size w w' ∧ Below wr.heap.size wr w') (first | (with_reducible assumption) | (with_reducible exact soM (by with_reducible assumption) (by with_reducible assumption))) (first | (go_at_call 39; (with_reducible refine (CE.out _ x.f0 x.f1 y.f0 y.f1 y.f2 _ HD.2.2.1 HD.2.2.2.1).mono ?_); rintro e w5 ⟨rfl, d5⟩; have HE := soM HD d5))
          go_wp2_with fail
          go_roundw
          case rel => exact ⟨j + 1, by rw [wk], JL.out, T.out, HE.2.2.2.2.2.2.2.1, HE.1, HE.2.1⟩
          case measure =>
            rw [wk]
            exact meas_lt JL.out
        | false => as_aux_lemma =>
          have T := Aside0.mk (show MEq l m false from ⟨fun h => absurd h (by decide), fun h => absurd h (NO.out ht)⟩)
          have hte : (x.f0.toList == y.f0.toList && x.f1.toList == y.f1.toList) = false := ht
          clear OKN NO ht
          go_wp2_with fail
          go_region_held3 (fun w' => w'.cell? ⟨w.heap.size, 0, none⟩ = some (.slice (some ad) n0 c) ∧ w'.cell? ⟨w.heap.size + 1, 0, none⟩ = some (.slice (some ad2) n0 d) ∧ w'.cell? (ad.add (j * 3)) = some (.string x.f0) ∧ w'.cell? ⟨(ad.add (j * 3)).block, (ad.add (j * 3)).off + 1, none⟩ = some (.string x.f1) ∧ w'.cell? (ad2.add (j * 3)) = some (.string y.f0) ∧ w'.cell? ⟨(ad2.add (j * 3)).block, (ad2.add (j * 3)).off + 1, none⟩ = some (.string y.f1) ∧ w'.cell? ⟨(ad2.add (j * 3)).block, (ad2.add (j * 3)).off + 2, none⟩ = some (.bool y.f2) ∧ Below w.heap.size w w' ∧ Below wr.heap.size wr w') (first | (with_reducible assumption) | (with_reducible exact soM (by with_reducible assumption) (by with_reducible assumption))) (first | (go_at_call 39; (with_reducible refine (CE.out _ x.f0 x.f1 y.f0 y.f1 y.f2 _ HD.2.2.1 HD.2.2.2.1).mono ?_); rintro e w5 ⟨rfl, d5⟩; have HE := soM HD d5))
          go_wp2_with fail
          go_ret
          exact ⟨false, rfl, T.out, HE.2.2.2.2.2.2.2.1⟩
      · have ej : j = n0 := by omega
        subst ej
        have T := Aside0.mk (show MEq l m true from ⟨fun _ => ⟨by rw [← E0.out, E1.out], fun i x y hx hy => hk i x y (by rw [E0.out]; exact (List.getElem?_eq_some_iff.1 hx).1) hx hy⟩, fun _ => rfl⟩)
        have g4 : ¬ (j : Int) < (j : Int) := by omega
        have BL := Aside0.mk hb
        clear hk hlt hj hb hq0 hq1
        go_wp2_with fail
        go_ret
        exact ⟨true, rfl, T.out, BL.out⟩
  · have f0 : ¬ ((n0 : Int) = (n1 : Int)) := by omega
    have T := Aside0.mk (show MEq l m false from ⟨fun h => absurd h (by decide), fun h => absurd (show n0 = n1 by rw [E0.out, E1.out]; exact h.1) hne⟩)
    clear hne
    go_enter Tryd.func34, Tryd.ntmps34
    go_wp2_with fail
    go_ret
    exact ⟨false, rfl, T.out, B2.out⟩
end Go.Proofs.YtkecmlpihnjjgaaDoor.Giv
