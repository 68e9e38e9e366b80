/- The walk of the law FnMavenQualifiers: versions with one qualifier each are in the order of the qualifiers. Printed by wip/tool/genmz.py. -/
import Derived.Test.YtkecmlpihnjjgaaDoorLGivMs
namespace Go.Proofs.YtkecmlpihnjjgaaDoor.Giv
open Go.RowKit Go.Proofs.YtkecmlpihnjjgaaDoorW.PrintWords Go.Proofs.YtkecmlpihnjjgaaDoorW.PrintLast Go.Proofs.YtkecmlpihnjjgaaDoor.Pk Go.Proofs.YtkecmlpihnjjgaaDoor.Ord Go.Proofs.YtkecmlpihnjjgaaDoor.QL
set_option linter.unusedVariables false
set_option linter.unusedSimpArgs false

theorem bel_of_drawn {w w' : World} (h : Drawn0 w w') : Below w.heap.size w w' := by
  obtain ⟨n, rfl⟩ := h
  exact bel_drewN (Below.refl _ _) n
theorem bel_from {w w' : World} {o : Obj} (d : Below (w.alloc o).heap.size (w.alloc o) w') : Below w.heap.size w w' := below_then (below_alloc (Below.refl w.heap.size w) o) (below_alloc (Below.refl w.heap.size w) o).size d
/-- A literal row of texts. -/
theorem row_ts {g t : Nat} {l : List ByteArray} {w : World} (hm : l.length ≤ 9223372036854775807) (hg : w.heap[g]? = some (.cells (l.map Value.string).toArray t (0, 0))) : Kd.C Kd.string w (some ⟨g, 0, none⟩) l.length l := by
  refine ⟨rfl, hm, fun _ => ⟨_, rfl, fun j p hj => ?_⟩⟩
  refine ⟨[.string p], rfl, rfl, fun i u hu => ?_⟩
  have h1 : i = 0 := by
    have := (List.getElem?_eq_some_iff.1 hu).1
    simpa using this
  subst h1
  obtain rfl : Value.string p = u := by simpa using hu
  have := blk_cell hg j
  rw [show (⟨g, j, none⟩ : Addr) = (⟨g, 0, none⟩ : Addr).add (j * Kd.string.sz + 0) by show _ = Addr.add _ (j * 1 + 0); rw [Nat.mul_one, Nat.add_zero]; unfold Addr.add; split <;> simp_all] at this
  rw [this]
  simp [hj]
/-- The cells of tokens. -/
def tkC : List S31 → List Value
  | [] => []
  | t :: r => [.string t.f0, .string t.f1, .bool t.f2] ++ tkC r
theorem tkC_at (l : List S31) : ∀ (j i : Nat) (t : S31) (u : Value), l[j]? = some t → [Value.string t.f0, .string t.f1, .bool t.f2][i]? = some u → (tkC l)[j * 3 + i]? = some u := by
  induction l with
  | nil => intro j i t u h; simp at h
  | cons x r ih =>
    intro j i t u h hu
    have hi : i < 3 := by
      have := (List.getElem?_eq_some_iff.1 hu).1
      simpa using this
    show ([Value.string x.f0, .string x.f1, .bool x.f2] ++ tkC r)[j * 3 + i]? = some u
    cases j with
    | zero =>
      obtain rfl : x = t := by simpa using h
      rw [Nat.zero_mul, Nat.zero_add, List.getElem?_append_left (by simpa using hi)]
      exact hu
    | succ j =>
      rw [List.getElem?_append_right (by simp; omega), show (j + 1) * 3 + i - [Value.string x.f0, .string x.f1, .bool x.f2].length = j * 3 + i by simp; omega]
      exact ih j i t u (by simpa using h) hu
theorem row_tk {g t : Nat} {l : List S31} {w : World} (hm : l.length ≤ 9223372036854775807) (hg : w.heap[g]? = some (.cells (tkC l).toArray t (0, 0))) : Kd.C k31 w (some ⟨g, 0, none⟩) l.length l := by
  refine ⟨rfl, hm, fun _ => ⟨_, rfl, fun j p hj => ?_⟩⟩
  refine ⟨[.string p.f0, .string p.f1, .bool p.f2], rfl, k31_mk w p, fun i u hu => ?_⟩
  have := blk_cell hg (j * 3 + i)
  rw [show (⟨g, j * 3 + i, none⟩ : Addr) = (⟨g, 0, none⟩ : Addr).add (j * k31.sz + i) by show _ = Addr.add _ (j * 3 + i); unfold Addr.add; split <;> simp_all] at this
  rw [this]
  have := tkC_at l j i p u hj hu
  simpa using this
/-- Three blocks made, one behind the other. -/
theorem w3a (X Y Z : Obj) (w : World) : (((w.alloc X).alloc Y).alloc Z).heap[w.heap.size]? = some X ∧ (((w.alloc X).alloc Y).alloc Z).heap[w.heap.size + 1]? = some Y ∧ (((w.alloc X).alloc Y).alloc Z).heap[w.heap.size + 1 + 1]? = some Z ∧ Below w.heap.size w (((w.alloc X).alloc Y).alloc Z) := by
  refine ⟨blk_alloc (blk_alloc (blk_new w X) _) _, blk_alloc ?_ _, ?_, below_alloc (below_alloc (below_alloc (Below.refl _ _) _) _) _⟩
  · have := blk_new (w.alloc X) Y
    simpa using this
  · have := blk_new ((w.alloc X).alloc Y) Z
    simpa using this
theorem bel_w3 {w0 w w' : World} {X Y Z : Obj} (h : Below w0.heap.size w0 w) (d : Below (((w.alloc X).alloc Y).alloc Z).heap.size (((w.alloc X).alloc Y).alloc Z) w') : Below w0.heap.size w0 w' :=
  below_then h h.size (below_then (w3a X Y Z w).2.2.2 (w3a X Y Z w).2.2.2.size d)
/-- The two literal versions. -/
abbrev XT (n a : ByteArray) : List S31 := [⟨⟨#[]⟩, n, false⟩, ⟨⟨#[45]⟩, a, false⟩]
abbrev XO (n a : ByteArray) : Obj := .cells #[.string ⟨#[]⟩, .string n, .bool false, .string ⟨#[45]⟩, .string a, .bool false] 31
abbrev ZO (g h : Nat) : Obj := .cells #[.slice (some ⟨g, 0, none⟩) 2 2, .slice (some ⟨h, 0, none⟩) 2 2] 22
theorem row_x {g : Nat} {n a : ByteArray} {w : World} (hg : w.heap[g]? = some (XO n a)) : Kd.C k31 w (some ⟨g, 0, none⟩) (XT n a).length (XT n a) := row_tk (by simp) hg
/-- What is told of two qualifiers beside the walk. -/
structure QP (n a b : ByteArray) (k : Nat) (s dn pa pb tk da db : Bool) : Prop where
  s : laws_short.f k [n, a, b] = some s
  dn : laws_digits.f k n = some dn
  pa : laws_plain.f k a ⟨#[]⟩ = some pa
  pb : laws_plain.f k b ⟨#[]⟩ = some pb
  tk : laws_tokens.f k [XT n a, XT n b] = some tk
  da : laws_digits.f k a = some da
  db : laws_digits.f k b = some db
section
variable {n a b : ByteArray} {k : Nat} {s dn pa pb tk da db : Bool}
theorem QP.short (h : QP n a b k s dn pa pb tk da db) (w : World) : Aside0 (∀ (w' : World) (g : Nat), Below w.heap.size w w' → w'.heap[g]? = some (Obj.cells #[.string n, .string a, .string b] 9 (0, 0)) → Calls Tryd.prog 9 #[.slice (some ⟨g, 0, none⟩) 3 3] w' fun e w2 => e = .returned (.bool s) ∧ Below w'.heap.size w' w2) :=
  ⟨fun w' g _ hg => (laws_short.calls k (some ⟨g, 0, none⟩) 3 [n, a, b] s w' (row_ts (l := [n, a, b]) (by simp) hg) (Nat.le_refl _) h.s).mono fun e w2 ⟨h1, h2⟩ => ⟨h1, bel_of_drawn h2⟩⟩
theorem dig_of {x : ByteArray} {r : Bool} (h : laws_digits.f k x = some r) : Aside0 (∀ w' : World, Calls Tryd.prog 10 #[.string x] w' fun e w2 => e = .returned (.bool r) ∧ Below w'.heap.size w' w2) :=
  ⟨fun w' => (laws_digits.calls k x r w' h).mono fun e w2 ⟨h1, h2⟩ => ⟨h1, bel_of_drawn h2⟩⟩
theorem plain_of {x : ByteArray} {r : Bool} (h : laws_plain.f k x ⟨#[]⟩ = some r) : Aside0 (∀ w' : World, Calls Tryd.prog 11 #[.string x, .string ⟨#[]⟩] w' fun e w2 => e = .returned (.bool r) ∧ Below w'.heap.size w' w2) :=
  ⟨fun w' => (laws_plain.calls k x ⟨#[]⟩ r w' h).mono fun e w2 ⟨h1, h2⟩ => ⟨h1, bel_of_drawn h2⟩⟩
theorem QP.tokens (h : QP n a b k s dn pa pb tk da db) (w : World) : Aside0 (∀ (w4 : World), Below w.heap.size w w4 → Calls Tryd.prog 6 #[.slice (some ⟨w4.heap.size + 1 + 1, 0, none⟩) 2 2] (((w4.alloc (XO n a)).alloc (XO n b)).alloc (ZO w4.heap.size (w4.heap.size + 1))) fun e w2 => e = .returned (.bool tk) ∧ Below (((w4.alloc (XO n a)).alloc (XO n b)).alloc (ZO w4.heap.size (w4.heap.size + 1))).heap.size (((w4.alloc (XO n a)).alloc (XO n b)).alloc (ZO w4.heap.size (w4.heap.size + 1))) w2) :=
  ⟨fun w4 _ => by
    obtain ⟨h1, h2, h3, _⟩ := w3a (XO n a) (XO n b) (ZO w4.heap.size (w4.heap.size + 1)) w4
    exact laws_tokens.calls k (some ⟨w4.heap.size + 1 + 1, 0, none⟩) 2 [XT n a, XT n b] tk _ (row_l2 h3 rfl rfl (Nat.le_refl _) (Nat.le_refl _) (row_x h1) (row_x h2)) (Nat.le_refl _) h.tk⟩
end
/-- The two literal rows in a world. -/
def XR (n a b : ByteArray) (w4 w7 : World) : Prop := w7.heap[w4.heap.size]? = some (XO n a) ∧ w7.heap[w4.heap.size + 1]? = some (XO n b)
theorem x_rows {n a b : ByteArray} {w4 w5 w6 w7 : World} {Z : Obj} (h : Below (((w4.alloc (XO n a)).alloc (XO n b)).alloc Z).heap.size (((w4.alloc (XO n a)).alloc (XO n b)).alloc Z) w5) (h6 : Below w5.heap.size w5 w6) (h7 : Below w6.heap.size w6 w7) : XR n a b w4 w7 := by
  obtain ⟨h1, h2, _, _⟩ := w3a (XO n a) (XO n b) Z w4
  exact ⟨blk_below (blk_below (blk_below h1 h) h6) h7, blk_below (blk_below (blk_below h2 h) h6) h7⟩

set_option maxRecDepth 100000 in
set_option maxHeartbeats 4000000 in
theorem q_big0 (n a b : ByteArray) (w : World) (g0 : 2147483647 < (n.size : Int)) :
    Calls Tryd.prog 4 #[.string n, .string a, .string b] w fun e w' => e = .returned (.bool true) ∧ Below w.heap.size w w' := by
  go_enter Tryd.func4, Tryd.ntmps4
  go_wp2_with (fail)
  go_ret
  exact ⟨rfl, Below.refl _ _⟩
set_option maxRecDepth 100000 in
set_option maxHeartbeats 4000000 in
theorem q_big1 (n a b : ByteArray) (w : World) (g0 : ¬ 2147483647 < (n.size : Int)) (g1 : 2147483647 < (a.size : Int)) :
    Calls Tryd.prog 4 #[.string n, .string a, .string b] w fun e w' => e = .returned (.bool true) ∧ Below w.heap.size w w' := by
  go_enter Tryd.func4, Tryd.ntmps4
  go_wp2_with (fail)
  go_ret
  exact ⟨rfl, Below.refl _ _⟩
set_option maxRecDepth 100000 in
set_option maxHeartbeats 4000000 in
theorem q_big2 (n a b : ByteArray) (w : World) (g0 : ¬ 2147483647 < (n.size : Int)) (g1 : ¬ 2147483647 < (a.size : Int)) (g2 : 2147483647 < (b.size : Int)) :
    Calls Tryd.prog 4 #[.string n, .string a, .string b] w fun e w' => e = .returned (.bool true) ∧ Below w.heap.size w w' := by
  go_enter Tryd.func4, Tryd.ntmps4
  go_wp2_with (fail)
  go_ret
  exact ⟨rfl, Below.refl _ _⟩
set_option maxRecDepth 100000 in
set_option maxHeartbeats 4000000 in
theorem q_short (n a b : ByteArray) (w : World) (g0 : ¬ 2147483647 < (n.size : Int)) (g1 : ¬ 2147483647 < (a.size : Int)) (g2 : ¬ 2147483647 < (b.size : Int)) (k : Nat) (dn pa pb tk da db : Bool) (h : QP n a b k false dn pa pb tk da db) :
    Calls Tryd.prog 4 #[.string n, .string a, .string b] w fun e w' => e = .returned (.bool true) ∧ Below w.heap.size w w' := by
  have SH := h.short w
  clear h
  go_enter Tryd.func4, Tryd.ntmps4
  go_wp2_with (first | (go_at_call 9; (with_reducible refine (SH.out _ _ (below_alloc (Below.refl _ _) _) (blk_new _ _)).mono ?_); rintro e w1 ⟨rfl, d⟩; have D1 := Aside0.mk (bel_from d); clear d))
  go_ret
  exact ⟨rfl, D1.out⟩
set_option maxRecDepth 100000 in
set_option maxHeartbeats 4000000 in
theorem q_dig (n a b : ByteArray) (w : World) (g0 : ¬ 2147483647 < (n.size : Int)) (g1 : ¬ 2147483647 < (a.size : Int)) (g2 : ¬ 2147483647 < (b.size : Int)) (k : Nat) (pa pb tk da db : Bool) (h : QP n a b k true false pa pb tk da db) :
    Calls Tryd.prog 4 #[.string n, .string a, .string b] w fun e w' => e = .returned (.bool true) ∧ Below w.heap.size w w' := by
  have SH := h.short w
  have DN := dig_of h.dn
  clear h
  go_enter Tryd.func4, Tryd.ntmps4
  go_wp2_with (first | (go_at_call 9; (with_reducible refine (SH.out _ _ (below_alloc (Below.refl _ _) _) (blk_new _ _)).mono ?_); rintro e w1 ⟨rfl, d⟩; have D1 := Aside0.mk (bel_from d); clear d) | (go_at_call 10; (with_reducible refine (DN.out _).mono ?_); rintro e w2 ⟨rfl, d⟩; have D2 := Aside0.mk (below_then D1.out D1.out.size d); clear d))
  go_ret
  exact ⟨rfl, D2.out⟩
set_option maxRecDepth 100000 in
set_option maxHeartbeats 4000000 in
theorem q_zero (n a b : ByteArray) (w : World) (g0 : ¬ 2147483647 < (n.size : Int)) (g1 : ¬ 2147483647 < (a.size : Int)) (g2 : ¬ 2147483647 < (b.size : Int)) (k : Nat) (z0 : 1 < (n.size : Int)) (z1 : bt n 0 = 48) (pa pb tk da db : Bool) (h : QP n a b k true true pa pb tk da db) :
    Calls Tryd.prog 4 #[.string n, .string a, .string b] w fun e w' => e = .returned (.bool true) ∧ Below w.heap.size w w' := by
  have hx0 : ∀ h : 0 < n.size, ((n[0]'h).toNat : Int) = bt n 0 := bt_at n 0
  have q0 : (0 < n.size) = True := eq_true (by omega)
  have qi : (0 < (n.size : Int)) = True := eq_true (by omega)
  have SH := h.short w
  have DN := dig_of h.dn
  clear h
  go_enter Tryd.func4, Tryd.ntmps4
  go_wp2_with (first | (go_at_call 9; (with_reducible refine (SH.out _ _ (below_alloc (Below.refl _ _) _) (blk_new _ _)).mono ?_); rintro e w1 ⟨rfl, d⟩; have D1 := Aside0.mk (bel_from d); clear d) | (go_at_call 10; (with_reducible refine (DN.out _).mono ?_); rintro e w2 ⟨rfl, d⟩; have D2 := Aside0.mk (below_then D1.out D1.out.size d); clear d))
  go_ret
  exact ⟨rfl, D2.out⟩
set_option maxRecDepth 100000 in
set_option maxHeartbeats 4000000 in
theorem q_paa (n a b : ByteArray) (w : World) (g0 : ¬ 2147483647 < (n.size : Int)) (g1 : ¬ 2147483647 < (a.size : Int)) (g2 : ¬ 2147483647 < (b.size : Int)) (k : Nat) (z0 : ¬ 1 < (n.size : Int)) (pb tk da db : Bool) (h : QP n a b k true true false pb tk da db) :
    Calls Tryd.prog 4 #[.string n, .string a, .string b] w fun e w' => e = .returned (.bool true) ∧ Below w.heap.size w w' := by
  have SH := h.short w
  have DN := dig_of h.dn
  have PA := plain_of h.pa
  clear h
  go_enter Tryd.func4, Tryd.ntmps4
  go_wp2_with (first | (go_at_call 9; (with_reducible refine (SH.out _ _ (below_alloc (Below.refl _ _) _) (blk_new _ _)).mono ?_); rintro e w1 ⟨rfl, d⟩; have D1 := Aside0.mk (bel_from d); clear d) | (go_at_call 10; (with_reducible refine (DN.out _).mono ?_); rintro e w2 ⟨rfl, d⟩; have D2 := Aside0.mk (below_then D1.out D1.out.size d); clear d) | (go_at_call 11; (with_reducible refine (PA.out _).mono ?_); rintro e w3 ⟨rfl, d⟩; have D3 := Aside0.mk (below_then D2.out D2.out.size d); clear d))
  go_ret
  exact ⟨rfl, D3.out⟩
set_option maxRecDepth 100000 in
set_option maxHeartbeats 4000000 in
theorem q_pba (n a b : ByteArray) (w : World) (g0 : ¬ 2147483647 < (n.size : Int)) (g1 : ¬ 2147483647 < (a.size : Int)) (g2 : ¬ 2147483647 < (b.size : Int)) (k : Nat) (z0 : ¬ 1 < (n.size : Int)) (tk da db : Bool) (h : QP n a b k true true true false tk da db) :
    Calls Tryd.prog 4 #[.string n, .string a, .string b] w fun e w' => e = .returned (.bool true) ∧ Below w.heap.size w w' := by
  have SH := h.short w
  have DN := dig_of h.dn
  have PA := plain_of h.pa
  have PB := plain_of h.pb
  clear h
  go_enter Tryd.func4, Tryd.ntmps4
  go_wp2_with (first | (go_at_call 9; (with_reducible refine (SH.out _ _ (below_alloc (Below.refl _ _) _) (blk_new _ _)).mono ?_); rintro e w1 ⟨rfl, d⟩; have D1 := Aside0.mk (bel_from d); clear d) | (go_at_call 10; (with_reducible refine (DN.out _).mono ?_); rintro e w2 ⟨rfl, d⟩; have D2 := Aside0.mk (below_then D1.out D1.out.size d); clear d) | (go_at_call 11; (with_reducible refine (PA.out _).mono ?_); rintro e w3 ⟨rfl, d⟩; have D3 := Aside0.mk (below_then D2.out D2.out.size d); clear d) | (go_at_call 11; (with_reducible refine (PB.out _).mono ?_); rintro e w4 ⟨rfl, d⟩; have D4 := Aside0.mk (below_then D3.out D3.out.size d); clear d))
  go_ret
  exact ⟨rfl, D4.out⟩
set_option maxRecDepth 100000 in
set_option maxHeartbeats 4000000 in
theorem q_tka (n a b : ByteArray) (w : World) (g0 : ¬ 2147483647 < (n.size : Int)) (g1 : ¬ 2147483647 < (a.size : Int)) (g2 : ¬ 2147483647 < (b.size : Int)) (k : Nat) (z0 : ¬ 1 < (n.size : Int)) (da db : Bool) (h : QP n a b k true true true true false da db) :
    Calls Tryd.prog 4 #[.string n, .string a, .string b] w fun e w' => e = .returned (.bool true) ∧ Below w.heap.size w w' := by
  have SH := h.short w
  have DN := dig_of h.dn
  have PA := plain_of h.pa
  have PB := plain_of h.pb
  have TK := h.tokens w
  clear h
  go_enter Tryd.func4, Tryd.ntmps4
  go_wp2_with (first | (go_at_call 9; (with_reducible refine (SH.out _ _ (below_alloc (Below.refl _ _) _) (blk_new _ _)).mono ?_); rintro e w1 ⟨rfl, d⟩; have D1 := Aside0.mk (bel_from d); clear d) | (go_at_call 10; (with_reducible refine (DN.out _).mono ?_); rintro e w2 ⟨rfl, d⟩; have D2 := Aside0.mk (below_then D1.out D1.out.size d); clear d) | (go_at_call 11; (with_reducible refine (PA.out _).mono ?_); rintro e w3 ⟨rfl, d⟩; have D3 := Aside0.mk (below_then D2.out D2.out.size d); clear d) | (go_at_call 11; (with_reducible refine (PB.out _).mono ?_); rintro e w4 ⟨rfl, d⟩; have D4 := Aside0.mk (below_then D3.out D3.out.size d); clear d) | (go_at_call 6; (with_reducible refine (TK.out w4 D4.out).mono ?_); rintro e w5 ⟨rfl, d⟩; have X5 := Aside0.mk d; have D5 := Aside0.mk (bel_w3 D4.out d); clear d))
  go_ret
  exact ⟨rfl, D5.out⟩
set_option maxRecDepth 100000 in
set_option maxHeartbeats 4000000 in
theorem q_daa (n a b : ByteArray) (w : World) (g0 : ¬ 2147483647 < (n.size : Int)) (g1 : ¬ 2147483647 < (a.size : Int)) (g2 : ¬ 2147483647 < (b.size : Int)) (k : Nat) (z0 : ¬ 1 < (n.size : Int)) (db : Bool) (h : QP n a b k true true true true true true db) :
    Calls Tryd.prog 4 #[.string n, .string a, .string b] w fun e w' => e = .returned (.bool true) ∧ Below w.heap.size w w' := by
  have SH := h.short w
  have DN := dig_of h.dn
  have PA := plain_of h.pa
  have PB := plain_of h.pb
  have TK := h.tokens w
  have DA := dig_of h.da
  clear h
  go_enter Tryd.func4, Tryd.ntmps4
  go_wp2_with (first | (go_at_call 9; (with_reducible refine (SH.out _ _ (below_alloc (Below.refl _ _) _) (blk_new _ _)).mono ?_); rintro e w1 ⟨rfl, d⟩; have D1 := Aside0.mk (bel_from d); clear d) | (go_at_call 10; (with_reducible refine (DN.out _).mono ?_); rintro e w2 ⟨rfl, d⟩; have D2 := Aside0.mk (below_then D1.out D1.out.size d); clear d) | (go_at_call 11; (with_reducible refine (PA.out _).mono ?_); rintro e w3 ⟨rfl, d⟩; have D3 := Aside0.mk (below_then D2.out D2.out.size d); clear d) | (go_at_call 11; (with_reducible refine (PB.out _).mono ?_); rintro e w4 ⟨rfl, d⟩; have D4 := Aside0.mk (below_then D3.out D3.out.size d); clear d) | (go_at_call 6; (with_reducible refine (TK.out w4 D4.out).mono ?_); rintro e w5 ⟨rfl, d⟩; have X5 := Aside0.mk d; have D5 := Aside0.mk (bel_w3 D4.out d); clear d) | (go_at_call 10; (with_reducible refine (DA.out _).mono ?_); rintro e w6 ⟨rfl, d⟩; have X6 := Aside0.mk d; have D6 := Aside0.mk (below_then D5.out D5.out.size d); clear d))
  go_ret
  exact ⟨rfl, D6.out⟩
set_option maxRecDepth 100000 in
set_option maxHeartbeats 4000000 in
theorem q_dba (n a b : ByteArray) (w : World) (g0 : ¬ 2147483647 < (n.size : Int)) (g1 : ¬ 2147483647 < (a.size : Int)) (g2 : ¬ 2147483647 < (b.size : Int)) (k : Nat) (z0 : ¬ 1 < (n.size : Int)) (h : QP n a b k true true true true true false true) :
    Calls Tryd.prog 4 #[.string n, .string a, .string b] w fun e w' => e = .returned (.bool true) ∧ Below w.heap.size w w' := by
  have SH := h.short w
  have DN := dig_of h.dn
  have PA := plain_of h.pa
  have PB := plain_of h.pb
  have TK := h.tokens w
  have DA := dig_of h.da
  have DB := dig_of h.db
  clear h
  go_enter Tryd.func4, Tryd.ntmps4
  go_wp2_with (first | (go_at_call 9; (with_reducible refine (SH.out _ _ (below_alloc (Below.refl _ _) _) (blk_new _ _)).mono ?_); rintro e w1 ⟨rfl, d⟩; have D1 := Aside0.mk (bel_from d); clear d) | (go_at_call 10; (with_reducible refine (DN.out _).mono ?_); rintro e w2 ⟨rfl, d⟩; have D2 := Aside0.mk (below_then D1.out D1.out.size d); clear d) | (go_at_call 11; (with_reducible refine (PA.out _).mono ?_); rintro e w3 ⟨rfl, d⟩; have D3 := Aside0.mk (below_then D2.out D2.out.size d); clear d) | (go_at_call 11; (with_reducible refine (PB.out _).mono ?_); rintro e w4 ⟨rfl, d⟩; have D4 := Aside0.mk (below_then D3.out D3.out.size d); clear d) | (go_at_call 6; (with_reducible refine (TK.out w4 D4.out).mono ?_); rintro e w5 ⟨rfl, d⟩; have X5 := Aside0.mk d; have D5 := Aside0.mk (bel_w3 D4.out d); clear d) | (go_at_call 10; (with_reducible refine (DA.out _).mono ?_); rintro e w6 ⟨rfl, d⟩; have X6 := Aside0.mk d; have D6 := Aside0.mk (below_then D5.out D5.out.size d); clear d) | (go_at_call 10; (with_reducible refine (DB.out _).mono ?_); rintro e w7 ⟨rfl, d⟩; have X7 : Aside0 (XR n a b w4 w7) := Aside0.mk (x_rows X5.out X6.out d); have D7 := Aside0.mk (below_then D6.out D6.out.size d); clear d))
  go_ret
  exact ⟨rfl, D7.out⟩
set_option maxRecDepth 100000 in
set_option maxHeartbeats 4000000 in
theorem q_pab (n a b : ByteArray) (w : World) (g0 : ¬ 2147483647 < (n.size : Int)) (g1 : ¬ 2147483647 < (a.size : Int)) (g2 : ¬ 2147483647 < (b.size : Int)) (k : Nat) (z0 : 1 < (n.size : Int)) (z1 : ¬ bt n 0 = 48) (pb tk da db : Bool) (h : QP n a b k true true false pb tk da db) :
    Calls Tryd.prog 4 #[.string n, .string a, .string b] w fun e w' => e = .returned (.bool true) ∧ Below w.heap.size w w' := by
  have hx0 : ∀ h : 0 < n.size, ((n[0]'h).toNat : Int) = bt n 0 := bt_at n 0
  have q0 : (0 < n.size) = True := eq_true (by omega)
  have qi : (0 < (n.size : Int)) = True := eq_true (by omega)
  have SH := h.short w
  have DN := dig_of h.dn
  have PA := plain_of h.pa
  clear h
  go_enter Tryd.func4, Tryd.ntmps4
  go_wp2_with (first | (go_at_call 9; (with_reducible refine (SH.out _ _ (below_alloc (Below.refl _ _) _) (blk_new _ _)).mono ?_); rintro e w1 ⟨rfl, d⟩; have D1 := Aside0.mk (bel_from d); clear d) | (go_at_call 10; (with_reducible refine (DN.out _).mono ?_); rintro e w2 ⟨rfl, d⟩; have D2 := Aside0.mk (below_then D1.out D1.out.size d); clear d) | (go_at_call 11; (with_reducible refine (PA.out _).mono ?_); rintro e w3 ⟨rfl, d⟩; have D3 := Aside0.mk (below_then D2.out D2.out.size d); clear d))
  go_ret
  exact ⟨rfl, D3.out⟩
set_option maxRecDepth 100000 in
set_option maxHeartbeats 4000000 in
theorem q_pbb (n a b : ByteArray) (w : World) (g0 : ¬ 2147483647 < (n.size : Int)) (g1 : ¬ 2147483647 < (a.size : Int)) (g2 : ¬ 2147483647 < (b.size : Int)) (k : Nat) (z0 : 1 < (n.size : Int)) (z1 : ¬ bt n 0 = 48) (tk da db : Bool) (h : QP n a b k true true true false tk da db) :
    Calls Tryd.prog 4 #[.string n, .string a, .string b] w fun e w' => e = .returned (.bool true) ∧ Below w.heap.size w w' := by
  have hx0 : ∀ h : 0 < n.size, ((n[0]'h).toNat : Int) = bt n 0 := bt_at n 0
  have q0 : (0 < n.size) = True := eq_true (by omega)
  have qi : (0 < (n.size : Int)) = True := eq_true (by omega)
  have SH := h.short w
  have DN := dig_of h.dn
  have PA := plain_of h.pa
  have PB := plain_of h.pb
  clear h
  go_enter Tryd.func4, Tryd.ntmps4
  go_wp2_with (first | (go_at_call 9; (with_reducible refine (SH.out _ _ (below_alloc (Below.refl _ _) _) (blk_new _ _)).mono ?_); rintro e w1 ⟨rfl, d⟩; have D1 := Aside0.mk (bel_from d); clear d) | (go_at_call 10; (with_reducible refine (DN.out _).mono ?_); rintro e w2 ⟨rfl, d⟩; have D2 := Aside0.mk (below_then D1.out D1.out.size d); clear d) | (go_at_call 11; (with_reducible refine (PA.out _).mono ?_); rintro e w3 ⟨rfl, d⟩; have D3 := Aside0.mk (below_then D2.out D2.out.size d); clear d) | (go_at_call 11; (with_reducible refine (PB.out _).mono ?_); rintro e w4 ⟨rfl, d⟩; have D4 := Aside0.mk (below_then D3.out D3.out.size d); clear d))
  go_ret
  exact ⟨rfl, D4.out⟩
set_option maxRecDepth 100000 in
set_option maxHeartbeats 4000000 in
theorem q_tkb (n a b : ByteArray) (w : World) (g0 : ¬ 2147483647 < (n.size : Int)) (g1 : ¬ 2147483647 < (a.size : Int)) (g2 : ¬ 2147483647 < (b.size : Int)) (k : Nat) (z0 : 1 < (n.size : Int)) (z1 : ¬ bt n 0 = 48) (da db : Bool) (h : QP n a b k true true true true false da db) :
    Calls Tryd.prog 4 #[.string n, .string a, .string b] w fun e w' => e = .returned (.bool true) ∧ Below w.heap.size w w' := by
  have hx0 : ∀ h : 0 < n.size, ((n[0]'h).toNat : Int) = bt n 0 := bt_at n 0
  have q0 : (0 < n.size) = True := eq_true (by omega)
  have qi : (0 < (n.size : Int)) = True := eq_true (by omega)
  have SH := h.short w
  have DN := dig_of h.dn
  have PA := plain_of h.pa
  have PB := plain_of h.pb
  have TK := h.tokens w
  clear h
  go_enter Tryd.func4, Tryd.ntmps4
  go_wp2_with (first | (go_at_call 9; (with_reducible refine (SH.out _ _ (below_alloc (Below.refl _ _) _) (blk_new _ _)).mono ?_); rintro e w1 ⟨rfl, d⟩; have D1 := Aside0.mk (bel_from d); clear d) | (go_at_call 10; (with_reducible refine (DN.out _).mono ?_); rintro e w2 ⟨rfl, d⟩; have D2 := Aside0.mk (below_then D1.out D1.out.size d); clear d) | (go_at_call 11; (with_reducible refine (PA.out _).mono ?_); rintro e w3 ⟨rfl, d⟩; have D3 := Aside0.mk (below_then D2.out D2.out.size d); clear d) | (go_at_call 11; (with_reducible refine (PB.out _).mono ?_); rintro e w4 ⟨rfl, d⟩; have D4 := Aside0.mk (below_then D3.out D3.out.size d); clear d) | (go_at_call 6; (with_reducible refine (TK.out w4 D4.out).mono ?_); rintro e w5 ⟨rfl, d⟩; have X5 := Aside0.mk d; have D5 := Aside0.mk (bel_w3 D4.out d); clear d))
  go_ret
  exact ⟨rfl, D5.out⟩
set_option maxRecDepth 100000 in
set_option maxHeartbeats 4000000 in
theorem q_dab (n a b : ByteArray) (w : World) (g0 : ¬ 2147483647 < (n.size : Int)) (g1 : ¬ 2147483647 < (a.size : Int)) (g2 : ¬ 2147483647 < (b.size : Int)) (k : Nat) (z0 : 1 < (n.size : Int)) (z1 : ¬ bt n 0 = 48) (db : Bool) (h : QP n a b k true true true true true true db) :
    Calls Tryd.prog 4 #[.string n, .string a, .string b] w fun e w' => e = .returned (.bool true) ∧ Below w.heap.size w w' := by
  have hx0 : ∀ h : 0 < n.size, ((n[0]'h).toNat : Int) = bt n 0 := bt_at n 0
  have q0 : (0 < n.size) = True := eq_true (by omega)
  have qi : (0 < (n.size : Int)) = True := eq_true (by omega)
  have SH := h.short w
  have DN := dig_of h.dn
  have PA := plain_of h.pa
  have PB := plain_of h.pb
  have TK := h.tokens w
  have DA := dig_of h.da
  clear h
  go_enter Tryd.func4, Tryd.ntmps4
  go_wp2_with (first | (go_at_call 9; (with_reducible refine (SH.out _ _ (below_alloc (Below.refl _ _) _) (blk_new _ _)).mono ?_); rintro e w1 ⟨rfl, d⟩; have D1 := Aside0.mk (bel_from d); clear d) | (go_at_call 10; (with_reducible refine (DN.out _).mono ?_); rintro e w2 ⟨rfl, d⟩; have D2 := Aside0.mk (below_then D1.out D1.out.size d); clear d) | (go_at_call 11; (with_reducible refine (PA.out _).mono ?_); rintro e w3 ⟨rfl, d⟩; have D3 := Aside0.mk (below_then D2.out D2.out.size d); clear d) | (go_at_call 11; (with_reducible refine (PB.out _).mono ?_); rintro e w4 ⟨rfl, d⟩; have D4 := Aside0.mk (below_then D3.out D3.out.size d); clear d) | (go_at_call 6; (with_reducible refine (TK.out w4 D4.out).mono ?_); rintro e w5 ⟨rfl, d⟩; have X5 := Aside0.mk d; have D5 := Aside0.mk (bel_w3 D4.out d); clear d) | (go_at_call 10; (with_reducible refine (DA.out _).mono ?_); rintro e w6 ⟨rfl, d⟩; have X6 := Aside0.mk d; have D6 := Aside0.mk (below_then D5.out D5.out.size d); clear d))
  go_ret
  exact ⟨rfl, D6.out⟩
set_option maxRecDepth 100000 in
set_option maxHeartbeats 4000000 in
theorem q_dbb (n a b : ByteArray) (w : World) (g0 : ¬ 2147483647 < (n.size : Int)) (g1 : ¬ 2147483647 < (a.size : Int)) (g2 : ¬ 2147483647 < (b.size : Int)) (k : Nat) (z0 : 1 < (n.size : Int)) (z1 : ¬ bt n 0 = 48) (h : QP n a b k true true true true true false true) :
    Calls Tryd.prog 4 #[.string n, .string a, .string b] w fun e w' => e = .returned (.bool true) ∧ Below w.heap.size w w' := by
  have hx0 : ∀ h : 0 < n.size, ((n[0]'h).toNat : Int) = bt n 0 := bt_at n 0
  have q0 : (0 < n.size) = True := eq_true (by omega)
  have qi : (0 < (n.size : Int)) = True := eq_true (by omega)
  have SH := h.short w
  have DN := dig_of h.dn
  have PA := plain_of h.pa
  have PB := plain_of h.pb
  have TK := h.tokens w
  have DA := dig_of h.da
  have DB := dig_of h.db
  clear h
  go_enter Tryd.func4, Tryd.ntmps4
  go_wp2_with (first | (go_at_call 9; (with_reducible refine (SH.out _ _ (below_alloc (Below.refl _ _) _) (blk_new _ _)).mono ?_); rintro e w1 ⟨rfl, d⟩; have D1 := Aside0.mk (bel_from d); clear d) | (go_at_call 10; (with_reducible refine (DN.out _).mono ?_); rintro e w2 ⟨rfl, d⟩; have D2 := Aside0.mk (below_then D1.out D1.out.size d); clear d) | (go_at_call 11; (with_reducible refine (PA.out _).mono ?_); rintro e w3 ⟨rfl, d⟩; have D3 := Aside0.mk (below_then D2.out D2.out.size d); clear d) | (go_at_call 11; (with_reducible refine (PB.out _).mono ?_); rintro e w4 ⟨rfl, d⟩; have D4 := Aside0.mk (below_then D3.out D3.out.size d); clear d) | (go_at_call 6; (with_reducible refine (TK.out w4 D4.out).mono ?_); rintro e w5 ⟨rfl, d⟩; have X5 := Aside0.mk d; have D5 := Aside0.mk (bel_w3 D4.out d); clear d) | (go_at_call 10; (with_reducible refine (DA.out _).mono ?_); rintro e w6 ⟨rfl, d⟩; have X6 := Aside0.mk d; have D6 := Aside0.mk (below_then D5.out D5.out.size d); clear d) | (go_at_call 10; (with_reducible refine (DB.out _).mono ?_); rintro e w7 ⟨rfl, d⟩; have X7 : Aside0 (XR n a b w4 w7) := Aside0.mk (x_rows X5.out X6.out d); have D7 := Aside0.mk (below_then D6.out D6.out.size d); clear d))
  go_ret
  exact ⟨rfl, D7.out⟩
/-- What is told of the comparison, of the places and of their sign. -/
structure QC (n a b : ByteArray) (w : World) (r s : Int) (x y : Nat) : Prop where
  mc : ∀ (w4 w7 : World), Below w.heap.size w w4 → Below w.heap.size w w7 → XR n a b w4 w7 → Calls Tryd.prog 7 #[.slice (some ⟨w4.heap.size, 0, none⟩) 2 2, .slice (some ⟨w4.heap.size + 1, 0, none⟩) 2 2] w7 fun e w2 => e = .returned (.tuple #[.int .i64 r, .bool true]) ∧ Below w7.heap.size w7 w2
  ka : ∀ w' : World, Below w.heap.size w w' → Calls Tryd.prog 13 #[.string a] w' fun e w2 => e = .returned (.int .i64 (x : Int)) ∧ Below w'.heap.size w' w2
  kb : ∀ w' : World, Below w.heap.size w w' → Calls Tryd.prog 13 #[.string b] w' fun e w2 => e = .returned (.int .i64 (y : Int)) ∧ Below w'.heap.size w' w2
  sg : ∀ w' : World, Calls Tryd.prog 12 #[.int .i64 (wrap64 ((x : Int) - (y : Int)))] w' fun e w2 => e = .returned (.int .i64 s) ∧ Below w'.heap.size w' w2

set_option maxRecDepth 100000 in
set_option maxHeartbeats 4000000 in
theorem q_fin0a (n a b : ByteArray) (w : World) (g0 : ¬ 2147483647 < (n.size : Int)) (g1 : ¬ 2147483647 < (a.size : Int)) (g2 : ¬ 2147483647 < (b.size : Int)) (k : Nat) (z0 : ¬ 1 < (n.size : Int)) (h : QP n a b k true true true true true false false) (x y : Nat) (hc : QC n a b w 0 0 x y) (l0 : Op.bytesLess a.toList b.toList = false) (l1 : (a.toList == b.toList) = true) :
    Calls Tryd.prog 4 #[.string n, .string a, .string b] w fun e w' => e = .returned (.bool true) ∧ Below w.heap.size w w' := by
  have SH := h.short w
  have DN := dig_of h.dn
  have PA := plain_of h.pa
  have PB := plain_of h.pb
  have TK := h.tokens w
  have DA := dig_of h.da
  have DB := dig_of h.db
  have MC := Aside0.mk hc.mc
  have KA := Aside0.mk hc.ka
  have KB := Aside0.mk hc.kb
  have SG := Aside0.mk hc.sg
  clear h hc
  go_enter Tryd.func4, Tryd.ntmps4
  go_wp2_with (first | (go_at_call 9; (with_reducible refine (SH.out _ _ (below_alloc (Below.refl _ _) _) (blk_new _ _)).mono ?_); rintro e w1 ⟨rfl, d⟩; have D1 := Aside0.mk (bel_from d); clear d) | (go_at_call 10; (with_reducible refine (DN.out _).mono ?_); rintro e w2 ⟨rfl, d⟩; have D2 := Aside0.mk (below_then D1.out D1.out.size d); clear d) | (go_at_call 11; (with_reducible refine (PA.out _).mono ?_); rintro e w3 ⟨rfl, d⟩; have D3 := Aside0.mk (below_then D2.out D2.out.size d); clear d) | (go_at_call 11; (with_reducible refine (PB.out _).mono ?_); rintro e w4 ⟨rfl, d⟩; have D4 := Aside0.mk (below_then D3.out D3.out.size d); clear d) | (go_at_call 6; (with_reducible refine (TK.out w4 D4.out).mono ?_); rintro e w5 ⟨rfl, d⟩; have X5 := Aside0.mk d; have D5 := Aside0.mk (bel_w3 D4.out d); clear d) | (go_at_call 10; (with_reducible refine (DA.out _).mono ?_); rintro e w6 ⟨rfl, d⟩; have X6 := Aside0.mk d; have D6 := Aside0.mk (below_then D5.out D5.out.size d); clear d) | (go_at_call 10; (with_reducible refine (DB.out _).mono ?_); rintro e w7 ⟨rfl, d⟩; have X7 : Aside0 (XR n a b w4 w7) := Aside0.mk (x_rows X5.out X6.out d); have D7 := Aside0.mk (below_then D6.out D6.out.size d); clear d) | (go_at_call 7; (with_reducible refine (MC.out w4 w7 D4.out D7.out X7.out).mono ?_); rintro e w8 ⟨rfl, d⟩; have D8 := Aside0.mk (below_then D7.out D7.out.size d); clear d) | (go_at_call 13; (with_reducible refine (KA.out _ D8.out).mono ?_); rintro e w9 ⟨rfl, d⟩; have D9 := Aside0.mk (below_then D8.out D8.out.size d); clear d) | (go_at_call 13; (with_reducible refine (KB.out _ D9.out).mono ?_); rintro e w10 ⟨rfl, d⟩; have D10 := Aside0.mk (below_then D9.out D9.out.size d); clear d) | (go_at_call 12; (with_reducible refine (SG.out _).mono ?_); rintro e w11 ⟨rfl, d⟩; have D11 := Aside0.mk (below_then D10.out D10.out.size d); clear d))
  go_ret
  exact ⟨rfl, D11.out⟩
set_option maxRecDepth 100000 in
set_option maxHeartbeats 4000000 in
theorem q_fin1a (n a b : ByteArray) (w : World) (g0 : ¬ 2147483647 < (n.size : Int)) (g1 : ¬ 2147483647 < (a.size : Int)) (g2 : ¬ 2147483647 < (b.size : Int)) (k : Nat) (z0 : ¬ 1 < (n.size : Int)) (h : QP n a b k true true true true true false false) (x y : Nat) (hc : QC n a b w (-1) (-1) x y)  :
    Calls Tryd.prog 4 #[.string n, .string a, .string b] w fun e w' => e = .returned (.bool true) ∧ Below w.heap.size w w' := by
  have SH := h.short w
  have DN := dig_of h.dn
  have PA := plain_of h.pa
  have PB := plain_of h.pb
  have TK := h.tokens w
  have DA := dig_of h.da
  have DB := dig_of h.db
  have MC := Aside0.mk hc.mc
  have KA := Aside0.mk hc.ka
  have KB := Aside0.mk hc.kb
  have SG := Aside0.mk hc.sg
  clear h hc
  go_enter Tryd.func4, Tryd.ntmps4
  go_wp2_with (first | (go_at_call 9; (with_reducible refine (SH.out _ _ (below_alloc (Below.refl _ _) _) (blk_new _ _)).mono ?_); rintro e w1 ⟨rfl, d⟩; have D1 := Aside0.mk (bel_from d); clear d) | (go_at_call 10; (with_reducible refine (DN.out _).mono ?_); rintro e w2 ⟨rfl, d⟩; have D2 := Aside0.mk (below_then D1.out D1.out.size d); clear d) | (go_at_call 11; (with_reducible refine (PA.out _).mono ?_); rintro e w3 ⟨rfl, d⟩; have D3 := Aside0.mk (below_then D2.out D2.out.size d); clear d) | (go_at_call 11; (with_reducible refine (PB.out _).mono ?_); rintro e w4 ⟨rfl, d⟩; have D4 := Aside0.mk (below_then D3.out D3.out.size d); clear d) | (go_at_call 6; (with_reducible refine (TK.out w4 D4.out).mono ?_); rintro e w5 ⟨rfl, d⟩; have X5 := Aside0.mk d; have D5 := Aside0.mk (bel_w3 D4.out d); clear d) | (go_at_call 10; (with_reducible refine (DA.out _).mono ?_); rintro e w6 ⟨rfl, d⟩; have X6 := Aside0.mk d; have D6 := Aside0.mk (below_then D5.out D5.out.size d); clear d) | (go_at_call 10; (with_reducible refine (DB.out _).mono ?_); rintro e w7 ⟨rfl, d⟩; have X7 : Aside0 (XR n a b w4 w7) := Aside0.mk (x_rows X5.out X6.out d); have D7 := Aside0.mk (below_then D6.out D6.out.size d); clear d) | (go_at_call 7; (with_reducible refine (MC.out w4 w7 D4.out D7.out X7.out).mono ?_); rintro e w8 ⟨rfl, d⟩; have D8 := Aside0.mk (below_then D7.out D7.out.size d); clear d) | (go_at_call 13; (with_reducible refine (KA.out _ D8.out).mono ?_); rintro e w9 ⟨rfl, d⟩; have D9 := Aside0.mk (below_then D8.out D8.out.size d); clear d) | (go_at_call 13; (with_reducible refine (KB.out _ D9.out).mono ?_); rintro e w10 ⟨rfl, d⟩; have D10 := Aside0.mk (below_then D9.out D9.out.size d); clear d) | (go_at_call 12; (with_reducible refine (SG.out _).mono ?_); rintro e w11 ⟨rfl, d⟩; have D11 := Aside0.mk (below_then D10.out D10.out.size d); clear d))
  go_ret
  exact ⟨rfl, D11.out⟩
set_option maxRecDepth 100000 in
set_option maxHeartbeats 4000000 in
theorem q_fin2a (n a b : ByteArray) (w : World) (g0 : ¬ 2147483647 < (n.size : Int)) (g1 : ¬ 2147483647 < (a.size : Int)) (g2 : ¬ 2147483647 < (b.size : Int)) (k : Nat) (z0 : ¬ 1 < (n.size : Int)) (h : QP n a b k true true true true true false false) (x y : Nat) (hc : QC n a b w 1 1 x y)  :
    Calls Tryd.prog 4 #[.string n, .string a, .string b] w fun e w' => e = .returned (.bool true) ∧ Below w.heap.size w w' := by
  have SH := h.short w
  have DN := dig_of h.dn
  have PA := plain_of h.pa
  have PB := plain_of h.pb
  have TK := h.tokens w
  have DA := dig_of h.da
  have DB := dig_of h.db
  have MC := Aside0.mk hc.mc
  have KA := Aside0.mk hc.ka
  have KB := Aside0.mk hc.kb
  have SG := Aside0.mk hc.sg
  clear h hc
  go_enter Tryd.func4, Tryd.ntmps4
  go_wp2_with (first | (go_at_call 9; (with_reducible refine (SH.out _ _ (below_alloc (Below.refl _ _) _) (blk_new _ _)).mono ?_); rintro e w1 ⟨rfl, d⟩; have D1 := Aside0.mk (bel_from d); clear d) | (go_at_call 10; (with_reducible refine (DN.out _).mono ?_); rintro e w2 ⟨rfl, d⟩; have D2 := Aside0.mk (below_then D1.out D1.out.size d); clear d) | (go_at_call 11; (with_reducible refine (PA.out _).mono ?_); rintro e w3 ⟨rfl, d⟩; have D3 := Aside0.mk (below_then D2.out D2.out.size d); clear d) | (go_at_call 11; (with_reducible refine (PB.out _).mono ?_); rintro e w4 ⟨rfl, d⟩; have D4 := Aside0.mk (below_then D3.out D3.out.size d); clear d) | (go_at_call 6; (with_reducible refine (TK.out w4 D4.out).mono ?_); rintro e w5 ⟨rfl, d⟩; have X5 := Aside0.mk d; have D5 := Aside0.mk (bel_w3 D4.out d); clear d) | (go_at_call 10; (with_reducible refine (DA.out _).mono ?_); rintro e w6 ⟨rfl, d⟩; have X6 := Aside0.mk d; have D6 := Aside0.mk (below_then D5.out D5.out.size d); clear d) | (go_at_call 10; (with_reducible refine (DB.out _).mono ?_); rintro e w7 ⟨rfl, d⟩; have X7 : Aside0 (XR n a b w4 w7) := Aside0.mk (x_rows X5.out X6.out d); have D7 := Aside0.mk (below_then D6.out D6.out.size d); clear d) | (go_at_call 7; (with_reducible refine (MC.out w4 w7 D4.out D7.out X7.out).mono ?_); rintro e w8 ⟨rfl, d⟩; have D8 := Aside0.mk (below_then D7.out D7.out.size d); clear d) | (go_at_call 13; (with_reducible refine (KA.out _ D8.out).mono ?_); rintro e w9 ⟨rfl, d⟩; have D9 := Aside0.mk (below_then D8.out D8.out.size d); clear d) | (go_at_call 13; (with_reducible refine (KB.out _ D9.out).mono ?_); rintro e w10 ⟨rfl, d⟩; have D10 := Aside0.mk (below_then D9.out D9.out.size d); clear d) | (go_at_call 12; (with_reducible refine (SG.out _).mono ?_); rintro e w11 ⟨rfl, d⟩; have D11 := Aside0.mk (below_then D10.out D10.out.size d); clear d))
  go_ret
  exact ⟨rfl, D11.out⟩
set_option maxRecDepth 100000 in
set_option maxHeartbeats 4000000 in
theorem q_fin3a (n a b : ByteArray) (w : World) (g0 : ¬ 2147483647 < (n.size : Int)) (g1 : ¬ 2147483647 < (a.size : Int)) (g2 : ¬ 2147483647 < (b.size : Int)) (k : Nat) (z0 : ¬ 1 < (n.size : Int)) (h : QP n a b k true true true true true false false) (x y : Nat) (hc : QC n a b w (-1) 0 x y) (l0 : Op.bytesLess a.toList b.toList = true) :
    Calls Tryd.prog 4 #[.string n, .string a, .string b] w fun e w' => e = .returned (.bool true) ∧ Below w.heap.size w w' := by
  have SH := h.short w
  have DN := dig_of h.dn
  have PA := plain_of h.pa
  have PB := plain_of h.pb
  have TK := h.tokens w
  have DA := dig_of h.da
  have DB := dig_of h.db
  have MC := Aside0.mk hc.mc
  have KA := Aside0.mk hc.ka
  have KB := Aside0.mk hc.kb
  have SG := Aside0.mk hc.sg
  clear h hc
  go_enter Tryd.func4, Tryd.ntmps4
  go_wp2_with (first | (go_at_call 9; (with_reducible refine (SH.out _ _ (below_alloc (Below.refl _ _) _) (blk_new _ _)).mono ?_); rintro e w1 ⟨rfl, d⟩; have D1 := Aside0.mk (bel_from d); clear d) | (go_at_call 10; (with_reducible refine (DN.out _).mono ?_); rintro e w2 ⟨rfl, d⟩; have D2 := Aside0.mk (below_then D1.out D1.out.size d); clear d) | (go_at_call 11; (with_reducible refine (PA.out _).mono ?_); rintro e w3 ⟨rfl, d⟩; have D3 := Aside0.mk (below_then D2.out D2.out.size d); clear d) | (go_at_call 11; (with_reducible refine (PB.out _).mono ?_); rintro e w4 ⟨rfl, d⟩; have D4 := Aside0.mk (below_then D3.out D3.out.size d); clear d) | (go_at_call 6; (with_reducible refine (TK.out w4 D4.out).mono ?_); rintro e w5 ⟨rfl, d⟩; have X5 := Aside0.mk d; have D5 := Aside0.mk (bel_w3 D4.out d); clear d) | (go_at_call 10; (with_reducible refine (DA.out _).mono ?_); rintro e w6 ⟨rfl, d⟩; have X6 := Aside0.mk d; have D6 := Aside0.mk (below_then D5.out D5.out.size d); clear d) | (go_at_call 10; (with_reducible refine (DB.out _).mono ?_); rintro e w7 ⟨rfl, d⟩; have X7 : Aside0 (XR n a b w4 w7) := Aside0.mk (x_rows X5.out X6.out d); have D7 := Aside0.mk (below_then D6.out D6.out.size d); clear d) | (go_at_call 7; (with_reducible refine (MC.out w4 w7 D4.out D7.out X7.out).mono ?_); rintro e w8 ⟨rfl, d⟩; have D8 := Aside0.mk (below_then D7.out D7.out.size d); clear d) | (go_at_call 13; (with_reducible refine (KA.out _ D8.out).mono ?_); rintro e w9 ⟨rfl, d⟩; have D9 := Aside0.mk (below_then D8.out D8.out.size d); clear d) | (go_at_call 13; (with_reducible refine (KB.out _ D9.out).mono ?_); rintro e w10 ⟨rfl, d⟩; have D10 := Aside0.mk (below_then D9.out D9.out.size d); clear d) | (go_at_call 12; (with_reducible refine (SG.out _).mono ?_); rintro e w11 ⟨rfl, d⟩; have D11 := Aside0.mk (below_then D10.out D10.out.size d); clear d))
  go_ret
  exact ⟨rfl, D11.out⟩
set_option maxRecDepth 100000 in
set_option maxHeartbeats 4000000 in
theorem q_fin4a (n a b : ByteArray) (w : World) (g0 : ¬ 2147483647 < (n.size : Int)) (g1 : ¬ 2147483647 < (a.size : Int)) (g2 : ¬ 2147483647 < (b.size : Int)) (k : Nat) (z0 : ¬ 1 < (n.size : Int)) (h : QP n a b k true true true true true false false) (x y : Nat) (hc : QC n a b w 1 0 x y) (l0 : Op.bytesLess a.toList b.toList = false) (l1 : (a.toList == b.toList) = false) :
    Calls Tryd.prog 4 #[.string n, .string a, .string b] w fun e w' => e = .returned (.bool true) ∧ Below w.heap.size w w' := by
  have SH := h.short w
  have DN := dig_of h.dn
  have PA := plain_of h.pa
  have PB := plain_of h.pb
  have TK := h.tokens w
  have DA := dig_of h.da
  have DB := dig_of h.db
  have MC := Aside0.mk hc.mc
  have KA := Aside0.mk hc.ka
  have KB := Aside0.mk hc.kb
  have SG := Aside0.mk hc.sg
  clear h hc
  go_enter Tryd.func4, Tryd.ntmps4
  go_wp2_with (first | (go_at_call 9; (with_reducible refine (SH.out _ _ (below_alloc (Below.refl _ _) _) (blk_new _ _)).mono ?_); rintro e w1 ⟨rfl, d⟩; have D1 := Aside0.mk (bel_from d); clear d) | (go_at_call 10; (with_reducible refine (DN.out _).mono ?_); rintro e w2 ⟨rfl, d⟩; have D2 := Aside0.mk (below_then D1.out D1.out.size d); clear d) | (go_at_call 11; (with_reducible refine (PA.out _).mono ?_); rintro e w3 ⟨rfl, d⟩; have D3 := Aside0.mk (below_then D2.out D2.out.size d); clear d) | (go_at_call 11; (with_reducible refine (PB.out _).mono ?_); rintro e w4 ⟨rfl, d⟩; have D4 := Aside0.mk (below_then D3.out D3.out.size d); clear d) | (go_at_call 6; (with_reducible refine (TK.out w4 D4.out).mono ?_); rintro e w5 ⟨rfl, d⟩; have X5 := Aside0.mk d; have D5 := Aside0.mk (bel_w3 D4.out d); clear d) | (go_at_call 10; (with_reducible refine (DA.out _).mono ?_); rintro e w6 ⟨rfl, d⟩; have X6 := Aside0.mk d; have D6 := Aside0.mk (below_then D5.out D5.out.size d); clear d) | (go_at_call 10; (with_reducible refine (DB.out _).mono ?_); rintro e w7 ⟨rfl, d⟩; have X7 : Aside0 (XR n a b w4 w7) := Aside0.mk (x_rows X5.out X6.out d); have D7 := Aside0.mk (below_then D6.out D6.out.size d); clear d) | (go_at_call 7; (with_reducible refine (MC.out w4 w7 D4.out D7.out X7.out).mono ?_); rintro e w8 ⟨rfl, d⟩; have D8 := Aside0.mk (below_then D7.out D7.out.size d); clear d) | (go_at_call 13; (with_reducible refine (KA.out _ D8.out).mono ?_); rintro e w9 ⟨rfl, d⟩; have D9 := Aside0.mk (below_then D8.out D8.out.size d); clear d) | (go_at_call 13; (with_reducible refine (KB.out _ D9.out).mono ?_); rintro e w10 ⟨rfl, d⟩; have D10 := Aside0.mk (below_then D9.out D9.out.size d); clear d) | (go_at_call 12; (with_reducible refine (SG.out _).mono ?_); rintro e w11 ⟨rfl, d⟩; have D11 := Aside0.mk (below_then D10.out D10.out.size d); clear d))
  go_ret
  exact ⟨rfl, D11.out⟩
set_option maxRecDepth 100000 in
set_option maxHeartbeats 4000000 in
theorem q_fin0b (n a b : ByteArray) (w : World) (g0 : ¬ 2147483647 < (n.size : Int)) (g1 : ¬ 2147483647 < (a.size : Int)) (g2 : ¬ 2147483647 < (b.size : Int)) (k : Nat) (z0 : 1 < (n.size : Int)) (z1 : ¬ bt n 0 = 48) (h : QP n a b k true true true true true false false) (x y : Nat) (hc : QC n a b w 0 0 x y) (l0 : Op.bytesLess a.toList b.toList = false) (l1 : (a.toList == b.toList) = true) :
    Calls Tryd.prog 4 #[.string n, .string a, .string b] w fun e w' => e = .returned (.bool true) ∧ Below w.heap.size w w' := by
  have hx0 : ∀ h : 0 < n.size, ((n[0]'h).toNat : Int) = bt n 0 := bt_at n 0
  have q0 : (0 < n.size) = True := eq_true (by omega)
  have qi : (0 < (n.size : Int)) = True := eq_true (by omega)
  have SH := h.short w
  have DN := dig_of h.dn
  have PA := plain_of h.pa
  have PB := plain_of h.pb
  have TK := h.tokens w
  have DA := dig_of h.da
  have DB := dig_of h.db
  have MC := Aside0.mk hc.mc
  have KA := Aside0.mk hc.ka
  have KB := Aside0.mk hc.kb
  have SG := Aside0.mk hc.sg
  clear h hc
  go_enter Tryd.func4, Tryd.ntmps4
  go_wp2_with (first | (go_at_call 9; (with_reducible refine (SH.out _ _ (below_alloc (Below.refl _ _) _) (blk_new _ _)).mono ?_); rintro e w1 ⟨rfl, d⟩; have D1 := Aside0.mk (bel_from d); clear d) | (go_at_call 10; (with_reducible refine (DN.out _).mono ?_); rintro e w2 ⟨rfl, d⟩; have D2 := Aside0.mk (below_then D1.out D1.out.size d); clear d) | (go_at_call 11; (with_reducible refine (PA.out _).mono ?_); rintro e w3 ⟨rfl, d⟩; have D3 := Aside0.mk (below_then D2.out D2.out.size d); clear d) | (go_at_call 11; (with_reducible refine (PB.out _).mono ?_); rintro e w4 ⟨rfl, d⟩; have D4 := Aside0.mk (below_then D3.out D3.out.size d); clear d) | (go_at_call 6; (with_reducible refine (TK.out w4 D4.out).mono ?_); rintro e w5 ⟨rfl, d⟩; have X5 := Aside0.mk d; have D5 := Aside0.mk (bel_w3 D4.out d); clear d) | (go_at_call 10; (with_reducible refine (DA.out _).mono ?_); rintro e w6 ⟨rfl, d⟩; have X6 := Aside0.mk d; have D6 := Aside0.mk (below_then D5.out D5.out.size d); clear d) | (go_at_call 10; (with_reducible refine (DB.out _).mono ?_); rintro e w7 ⟨rfl, d⟩; have X7 : Aside0 (XR n a b w4 w7) := Aside0.mk (x_rows X5.out X6.out d); have D7 := Aside0.mk (below_then D6.out D6.out.size d); clear d) | (go_at_call 7; (with_reducible refine (MC.out w4 w7 D4.out D7.out X7.out).mono ?_); rintro e w8 ⟨rfl, d⟩; have D8 := Aside0.mk (below_then D7.out D7.out.size d); clear d) | (go_at_call 13; (with_reducible refine (KA.out _ D8.out).mono ?_); rintro e w9 ⟨rfl, d⟩; have D9 := Aside0.mk (below_then D8.out D8.out.size d); clear d) | (go_at_call 13; (with_reducible refine (KB.out _ D9.out).mono ?_); rintro e w10 ⟨rfl, d⟩; have D10 := Aside0.mk (below_then D9.out D9.out.size d); clear d) | (go_at_call 12; (with_reducible refine (SG.out _).mono ?_); rintro e w11 ⟨rfl, d⟩; have D11 := Aside0.mk (below_then D10.out D10.out.size d); clear d))
  go_ret
  exact ⟨rfl, D11.out⟩
set_option maxRecDepth 100000 in
set_option maxHeartbeats 4000000 in
theorem q_fin1b (n a b : ByteArray) (w : World) (g0 : ¬ 2147483647 < (n.size : Int)) (g1 : ¬ 2147483647 < (a.size : Int)) (g2 : ¬ 2147483647 < (b.size : Int)) (k : Nat) (z0 : 1 < (n.size : Int)) (z1 : ¬ bt n 0 = 48) (h : QP n a b k true true true true true false false) (x y : Nat) (hc : QC n a b w (-1) (-1) x y)  :
    Calls Tryd.prog 4 #[.string n, .string a, .string b] w fun e w' => e = .returned (.bool true) ∧ Below w.heap.size w w' := by
  have hx0 : ∀ h : 0 < n.size, ((n[0]'h).toNat : Int) = bt n 0 := bt_at n 0
  have q0 : (0 < n.size) = True := eq_true (by omega)
  have qi : (0 < (n.size : Int)) = True := eq_true (by omega)
  have SH := h.short w
  have DN := dig_of h.dn
  have PA := plain_of h.pa
  have PB := plain_of h.pb
  have TK := h.tokens w
  have DA := dig_of h.da
  have DB := dig_of h.db
  have MC := Aside0.mk hc.mc
  have KA := Aside0.mk hc.ka
  have KB := Aside0.mk hc.kb
  have SG := Aside0.mk hc.sg
  clear h hc
  go_enter Tryd.func4, Tryd.ntmps4
  go_wp2_with (first | (go_at_call 9; (with_reducible refine (SH.out _ _ (below_alloc (Below.refl _ _) _) (blk_new _ _)).mono ?_); rintro e w1 ⟨rfl, d⟩; have D1 := Aside0.mk (bel_from d); clear d) | (go_at_call 10; (with_reducible refine (DN.out _).mono ?_); rintro e w2 ⟨rfl, d⟩; have D2 := Aside0.mk (below_then D1.out D1.out.size d); clear d) | (go_at_call 11; (with_reducible refine (PA.out _).mono ?_); rintro e w3 ⟨rfl, d⟩; have D3 := Aside0.mk (below_then D2.out D2.out.size d); clear d) | (go_at_call 11; (with_reducible refine (PB.out _).mono ?_); rintro e w4 ⟨rfl, d⟩; have D4 := Aside0.mk (below_then D3.out D3.out.size d); clear d) | (go_at_call 6; (with_reducible refine (TK.out w4 D4.out).mono ?_); rintro e w5 ⟨rfl, d⟩; have X5 := Aside0.mk d; have D5 := Aside0.mk (bel_w3 D4.out d); clear d) | (go_at_call 10; (with_reducible refine (DA.out _).mono ?_); rintro e w6 ⟨rfl, d⟩; have X6 := Aside0.mk d; have D6 := Aside0.mk (below_then D5.out D5.out.size d); clear d) | (go_at_call 10; (with_reducible refine (DB.out _).mono ?_); rintro e w7 ⟨rfl, d⟩; have X7 : Aside0 (XR n a b w4 w7) := Aside0.mk (x_rows X5.out X6.out d); have D7 := Aside0.mk (below_then D6.out D6.out.size d); clear d) | (go_at_call 7; (with_reducible refine (MC.out w4 w7 D4.out D7.out X7.out).mono ?_); rintro e w8 ⟨rfl, d⟩; have D8 := Aside0.mk (below_then D7.out D7.out.size d); clear d) | (go_at_call 13; (with_reducible refine (KA.out _ D8.out).mono ?_); rintro e w9 ⟨rfl, d⟩; have D9 := Aside0.mk (below_then D8.out D8.out.size d); clear d) | (go_at_call 13; (with_reducible refine (KB.out _ D9.out).mono ?_); rintro e w10 ⟨rfl, d⟩; have D10 := Aside0.mk (below_then D9.out D9.out.size d); clear d) | (go_at_call 12; (with_reducible refine (SG.out _).mono ?_); rintro e w11 ⟨rfl, d⟩; have D11 := Aside0.mk (below_then D10.out D10.out.size d); clear d))
  go_ret
  exact ⟨rfl, D11.out⟩
set_option maxRecDepth 100000 in
set_option maxHeartbeats 4000000 in
theorem q_fin2b (n a b : ByteArray) (w : World) (g0 : ¬ 2147483647 < (n.size : Int)) (g1 : ¬ 2147483647 < (a.size : Int)) (g2 : ¬ 2147483647 < (b.size : Int)) (k : Nat) (z0 : 1 < (n.size : Int)) (z1 : ¬ bt n 0 = 48) (h : QP n a b k true true true true true false false) (x y : Nat) (hc : QC n a b w 1 1 x y)  :
    Calls Tryd.prog 4 #[.string n, .string a, .string b] w fun e w' => e = .returned (.bool true) ∧ Below w.heap.size w w' := by
  have hx0 : ∀ h : 0 < n.size, ((n[0]'h).toNat : Int) = bt n 0 := bt_at n 0
  have q0 : (0 < n.size) = True := eq_true (by omega)
  have qi : (0 < (n.size : Int)) = True := eq_true (by omega)
  have SH := h.short w
  have DN := dig_of h.dn
  have PA := plain_of h.pa
  have PB := plain_of h.pb
  have TK := h.tokens w
  have DA := dig_of h.da
  have DB := dig_of h.db
  have MC := Aside0.mk hc.mc
  have KA := Aside0.mk hc.ka
  have KB := Aside0.mk hc.kb
  have SG := Aside0.mk hc.sg
  clear h hc
  go_enter Tryd.func4, Tryd.ntmps4
  go_wp2_with (first | (go_at_call 9; (with_reducible refine (SH.out _ _ (below_alloc (Below.refl _ _) _) (blk_new _ _)).mono ?_); rintro e w1 ⟨rfl, d⟩; have D1 := Aside0.mk (bel_from d); clear d) | (go_at_call 10; (with_reducible refine (DN.out _).mono ?_); rintro e w2 ⟨rfl, d⟩; have D2 := Aside0.mk (below_then D1.out D1.out.size d); clear d) | (go_at_call 11; (with_reducible refine (PA.out _).mono ?_); rintro e w3 ⟨rfl, d⟩; have D3 := Aside0.mk (below_then D2.out D2.out.size d); clear d) | (go_at_call 11; (with_reducible refine (PB.out _).mono ?_); rintro e w4 ⟨rfl, d⟩; have D4 := Aside0.mk (below_then D3.out D3.out.size d); clear d) | (go_at_call 6; (with_reducible refine (TK.out w4 D4.out).mono ?_); rintro e w5 ⟨rfl, d⟩; have X5 := Aside0.mk d; have D5 := Aside0.mk (bel_w3 D4.out d); clear d) | (go_at_call 10; (with_reducible refine (DA.out _).mono ?_); rintro e w6 ⟨rfl, d⟩; have X6 := Aside0.mk d; have D6 := Aside0.mk (below_then D5.out D5.out.size d); clear d) | (go_at_call 10; (with_reducible refine (DB.out _).mono ?_); rintro e w7 ⟨rfl, d⟩; have X7 : Aside0 (XR n a b w4 w7) := Aside0.mk (x_rows X5.out X6.out d); have D7 := Aside0.mk (below_then D6.out D6.out.size d); clear d) | (go_at_call 7; (with_reducible refine (MC.out w4 w7 D4.out D7.out X7.out).mono ?_); rintro e w8 ⟨rfl, d⟩; have D8 := Aside0.mk (below_then D7.out D7.out.size d); clear d) | (go_at_call 13; (with_reducible refine (KA.out _ D8.out).mono ?_); rintro e w9 ⟨rfl, d⟩; have D9 := Aside0.mk (below_then D8.out D8.out.size d); clear d) | (go_at_call 13; (with_reducible refine (KB.out _ D9.out).mono ?_); rintro e w10 ⟨rfl, d⟩; have D10 := Aside0.mk (below_then D9.out D9.out.size d); clear d) | (go_at_call 12; (with_reducible refine (SG.out _).mono ?_); rintro e w11 ⟨rfl, d⟩; have D11 := Aside0.mk (below_then D10.out D10.out.size d); clear d))
  go_ret
  exact ⟨rfl, D11.out⟩
set_option maxRecDepth 100000 in
set_option maxHeartbeats 4000000 in
theorem q_fin3b (n a b : ByteArray) (w : World) (g0 : ¬ 2147483647 < (n.size : Int)) (g1 : ¬ 2147483647 < (a.size : Int)) (g2 : ¬ 2147483647 < (b.size : Int)) (k : Nat) (z0 : 1 < (n.size : Int)) (z1 : ¬ bt n 0 = 48) (h : QP n a b k true true true true true false false) (x y : Nat) (hc : QC n a b w (-1) 0 x y) (l0 : Op.bytesLess a.toList b.toList = true) :
    Calls Tryd.prog 4 #[.string n, .string a, .string b] w fun e w' => e = .returned (.bool true) ∧ Below w.heap.size w w' := by
  have hx0 : ∀ h : 0 < n.size, ((n[0]'h).toNat : Int) = bt n 0 := bt_at n 0
  have q0 : (0 < n.size) = True := eq_true (by omega)
  have qi : (0 < (n.size : Int)) = True := eq_true (by omega)
  have SH := h.short w
  have DN := dig_of h.dn
  have PA := plain_of h.pa
  have PB := plain_of h.pb
  have TK := h.tokens w
  have DA := dig_of h.da
  have DB := dig_of h.db
  have MC := Aside0.mk hc.mc
  have KA := Aside0.mk hc.ka
  have KB := Aside0.mk hc.kb
  have SG := Aside0.mk hc.sg
  clear h hc
  go_enter Tryd.func4, Tryd.ntmps4
  go_wp2_with (first | (go_at_call 9; (with_reducible refine (SH.out _ _ (below_alloc (Below.refl _ _) _) (blk_new _ _)).mono ?_); rintro e w1 ⟨rfl, d⟩; have D1 := Aside0.mk (bel_from d); clear d) | (go_at_call 10; (with_reducible refine (DN.out _).mono ?_); rintro e w2 ⟨rfl, d⟩; have D2 := Aside0.mk (below_then D1.out D1.out.size d); clear d) | (go_at_call 11; (with_reducible refine (PA.out _).mono ?_); rintro e w3 ⟨rfl, d⟩; have D3 := Aside0.mk (below_then D2.out D2.out.size d); clear d) | (go_at_call 11; (with_reducible refine (PB.out _).mono ?_); rintro e w4 ⟨rfl, d⟩; have D4 := Aside0.mk (below_then D3.out D3.out.size d); clear d) | (go_at_call 6; (with_reducible refine (TK.out w4 D4.out).mono ?_); rintro e w5 ⟨rfl, d⟩; have X5 := Aside0.mk d; have D5 := Aside0.mk (bel_w3 D4.out d); clear d) | (go_at_call 10; (with_reducible refine (DA.out _).mono ?_); rintro e w6 ⟨rfl, d⟩; have X6 := Aside0.mk d; have D6 := Aside0.mk (below_then D5.out D5.out.size d); clear d) | (go_at_call 10; (with_reducible refine (DB.out _).mono ?_); rintro e w7 ⟨rfl, d⟩; have X7 : Aside0 (XR n a b w4 w7) := Aside0.mk (x_rows X5.out X6.out d); have D7 := Aside0.mk (below_then D6.out D6.out.size d); clear d) | (go_at_call 7; (with_reducible refine (MC.out w4 w7 D4.out D7.out X7.out).mono ?_); rintro e w8 ⟨rfl, d⟩; have D8 := Aside0.mk (below_then D7.out D7.out.size d); clear d) | (go_at_call 13; (with_reducible refine (KA.out _ D8.out).mono ?_); rintro e w9 ⟨rfl, d⟩; have D9 := Aside0.mk (below_then D8.out D8.out.size d); clear d) | (go_at_call 13; (with_reducible refine (KB.out _ D9.out).mono ?_); rintro e w10 ⟨rfl, d⟩; have D10 := Aside0.mk (below_then D9.out D9.out.size d); clear d) | (go_at_call 12; (with_reducible refine (SG.out _).mono ?_); rintro e w11 ⟨rfl, d⟩; have D11 := Aside0.mk (below_then D10.out D10.out.size d); clear d))
  go_ret
  exact ⟨rfl, D11.out⟩
set_option maxRecDepth 100000 in
set_option maxHeartbeats 4000000 in
theorem q_fin4b (n a b : ByteArray) (w : World) (g0 : ¬ 2147483647 < (n.size : Int)) (g1 : ¬ 2147483647 < (a.size : Int)) (g2 : ¬ 2147483647 < (b.size : Int)) (k : Nat) (z0 : 1 < (n.size : Int)) (z1 : ¬ bt n 0 = 48) (h : QP n a b k true true true true true false false) (x y : Nat) (hc : QC n a b w 1 0 x y) (l0 : Op.bytesLess a.toList b.toList = false) (l1 : (a.toList == b.toList) = false) :
    Calls Tryd.prog 4 #[.string n, .string a, .string b] w fun e w' => e = .returned (.bool true) ∧ Below w.heap.size w w' := by
  have hx0 : ∀ h : 0 < n.size, ((n[0]'h).toNat : Int) = bt n 0 := bt_at n 0
  have q0 : (0 < n.size) = True := eq_true (by omega)
  have qi : (0 < (n.size : Int)) = True := eq_true (by omega)
  have SH := h.short w
  have DN := dig_of h.dn
  have PA := plain_of h.pa
  have PB := plain_of h.pb
  have TK := h.tokens w
  have DA := dig_of h.da
  have DB := dig_of h.db
  have MC := Aside0.mk hc.mc
  have KA := Aside0.mk hc.ka
  have KB := Aside0.mk hc.kb
  have SG := Aside0.mk hc.sg
  clear h hc
  go_enter Tryd.func4, Tryd.ntmps4
  go_wp2_with (first | (go_at_call 9; (with_reducible refine (SH.out _ _ (below_alloc (Below.refl _ _) _) (blk_new _ _)).mono ?_); rintro e w1 ⟨rfl, d⟩; have D1 := Aside0.mk (bel_from d); clear d) | (go_at_call 10; (with_reducible refine (DN.out _).mono ?_); rintro e w2 ⟨rfl, d⟩; have D2 := Aside0.mk (below_then D1.out D1.out.size d); clear d) | (go_at_call 11; (with_reducible refine (PA.out _).mono ?_); rintro e w3 ⟨rfl, d⟩; have D3 := Aside0.mk (below_then D2.out D2.out.size d); clear d) | (go_at_call 11; (with_reducible refine (PB.out _).mono ?_); rintro e w4 ⟨rfl, d⟩; have D4 := Aside0.mk (below_then D3.out D3.out.size d); clear d) | (go_at_call 6; (with_reducible refine (TK.out w4 D4.out).mono ?_); rintro e w5 ⟨rfl, d⟩; have X5 := Aside0.mk d; have D5 := Aside0.mk (bel_w3 D4.out d); clear d) | (go_at_call 10; (with_reducible refine (DA.out _).mono ?_); rintro e w6 ⟨rfl, d⟩; have X6 := Aside0.mk d; have D6 := Aside0.mk (below_then D5.out D5.out.size d); clear d) | (go_at_call 10; (with_reducible refine (DB.out _).mono ?_); rintro e w7 ⟨rfl, d⟩; have X7 : Aside0 (XR n a b w4 w7) := Aside0.mk (x_rows X5.out X6.out d); have D7 := Aside0.mk (below_then D6.out D6.out.size d); clear d) | (go_at_call 7; (with_reducible refine (MC.out w4 w7 D4.out D7.out X7.out).mono ?_); rintro e w8 ⟨rfl, d⟩; have D8 := Aside0.mk (below_then D7.out D7.out.size d); clear d) | (go_at_call 13; (with_reducible refine (KA.out _ D8.out).mono ?_); rintro e w9 ⟨rfl, d⟩; have D9 := Aside0.mk (below_then D8.out D8.out.size d); clear d) | (go_at_call 13; (with_reducible refine (KB.out _ D9.out).mono ?_); rintro e w10 ⟨rfl, d⟩; have D10 := Aside0.mk (below_then D9.out D9.out.size d); clear d) | (go_at_call 12; (with_reducible refine (SG.out _).mono ?_); rintro e w11 ⟨rfl, d⟩; have D11 := Aside0.mk (below_then D10.out D10.out.size d); clear d))
  go_ret
  exact ⟨rfl, D11.out⟩
end Go.Proofs.YtkecmlpihnjjgaaDoor.Giv
