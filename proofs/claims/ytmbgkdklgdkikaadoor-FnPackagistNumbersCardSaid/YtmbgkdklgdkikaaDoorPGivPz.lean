/- The walk of the law FnPackagistNumbers: versions of numbers alone compare number by number. -/
import Derived.Test.YtmbgkdklgdkikaaDoorPPpk
namespace Go.Proofs.YtmbgkdklgdkikaaDoor.Giv
open Go.RowKit Go.Proofs.YtmbgkdklgdkikaaDoorW.PrintWords Go.Proofs.YtmbgkdklgdkikaaDoorW.PrintLast Go.Proofs.YtmbgkdklgdkikaaDoor.Pk Go.Proofs.YtmbgkdklgdkikaaDoor.Ord Go.Proofs.YtmbgkdklgdkikaaDoor.QP Go.Proofs.YtmbgkdklgdkikaaDoor.Pure
set_option linter.unusedVariables false
set_option linter.unusedSimpArgs false

theorem bel_of_drawn {w w' : World} (h : Drawn0 w w') : Below w.heap.size w w' := by
  obtain ⟨n, rfl⟩ := h
  exact bel_drewN (Below.refl _ _) n
/-- A literal row of two lists of texts, that came in. -/
abbrev ZP (A B : Option Addr) (n n' c d : Nat) : Obj := .cells #[.slice A n c, .slice B n' d] 22
theorem row_p2 {g n n' c d : Nat} {A B : Option Addr} {l m : List ByteArray} {w : World} (hg : w.heap[g]? = some (ZP A B n n' c d)) (e : n = l.length) (e' : n' = m.length) (hc : l.length ≤ c) (hd : m.length ≤ d) (hC : Kd.C Kd.string w A l.length l) (hD : Kd.C Kd.string w B m.length m) : Kd.C (Kd.slice 9 Kd.string) w (some ⟨g, 0, none⟩) [l, m].length [l, m] := by
  subst e e'
  refine ⟨rfl, by simp, fun _ => ⟨_, rfl, fun j p hj => ?_⟩⟩
  have h0 : j < 2 := by
    have := (List.getElem?_eq_some_iff.1 hj).1
    simpa using this
  have one : ∀ (i : Nat) (u v : Value), ([v] : List Value)[i]? = some u → i = 0 ∧ v = u := by
    intro i u v hu
    have h1 : i = 0 := by
      have := (List.getElem?_eq_some_iff.1 hu).1
      simpa using this
    subst h1
    exact ⟨rfl, by simpa using hu⟩
  match j, h0 with
  | 0, _ =>
    obtain rfl : l = p := by simpa using hj
    refine ⟨[.slice A l.length c], rfl, ⟨A, c, rfl, hc, hC⟩, ?_⟩
    intro i u hu
    obtain ⟨rfl, rfl⟩ := one i u _ hu
    exact (blk_cell hg 0).trans rfl
  | 1, _ =>
    obtain rfl : m = p := by simpa using hj
    refine ⟨[.slice B m.length d], rfl, ⟨B, d, rfl, hd, hD⟩, ?_⟩
    intro i u hu
    obtain ⟨rfl, rfl⟩ := one i u _ hu
    exact (blk_cell hg 1).trans rfl
/-- A literal row of one plain number; of two whole numbers. -/
theorem row_n1 {g t : Nat} {x : Bool} {y : ByteArray} {w : World} (hg : w.heap[g]? = some (.cells #[.bool x, .string y] t (0, 0))) : Kd.C k28 w (some ⟨g, 0, none⟩) 1 [(⟨x, y⟩ : S28)] := by
  refine ⟨rfl, by simp, fun _ => ⟨_, rfl, fun j p hj => ?_⟩⟩
  have h0 : j = 0 := by
    have := (List.getElem?_eq_some_iff.1 hj).1
    simpa using this
  subst h0
  obtain rfl : (⟨x, y⟩ : S28) = p := by simpa using hj
  refine ⟨[.bool x, .string y], rfl, k28_mk w _, fun i u hu => ?_⟩
  match i, hu with
  | 0, hu =>
    obtain rfl := Option.some.inj hu
    exact (blk_cell hg 0).trans rfl
  | 1, hu =>
    obtain rfl := Option.some.inj hu
    exact (blk_cell hg 1).trans rfl
theorem row_i2 {g t : Nat} {x y : Int} {w : World} (hg : w.heap[g]? = some (.cells #[.int .i64 x, .int .i64 y] t (0, 0))) : Kd.C (Kd.int .i64) w (some ⟨g, 0, none⟩) 2 [x, y] := by
  refine ⟨rfl, by simp, fun _ => ⟨_, rfl, fun j p hj => ?_⟩⟩
  refine ⟨[.int .i64 p], rfl, rfl, fun i u hu => ?_⟩
  have h1 : i = 0 := by
    have := (List.getElem?_eq_some_iff.1 hu).1
    simpa using this
  subst h1
  obtain rfl : Value.int .i64 p = u := by simpa using hu
  match j, hj with
  | 0, hj =>
    obtain rfl := Option.some.inj hj
    exact (blk_cell hg 0).trans rfl
  | 1, hj =>
    obtain rfl := Option.some.inj hj
    exact (blk_cell hg 1).trans rfl
/-- Two cells of a block written. -/
abbrev put2 (w : World) (g : Nat) (a b : Value) : World := (w.setCell ⟨g, 0, none⟩ a).setCell ⟨g, 1, none⟩ b
theorem put2_blk {w : World} {g t : Nat} {s u : Value} (h : w.heap[g]? = some (Obj.cells #[s, u] t (0, 0))) (a b : Value) : (put2 w g a b).heap[g]? = some (Obj.cells #[a, b] t (0, 0)) := by
  have k1 := blk_put (cs := #[s, u]) h 0 a rfl
  exact blk_put (cs := #[a, u]) k1 1 b rfl
theorem put2_ne {w : World} {g : Nat} (a b : Value) {k : Nat} (hk : g ≠ k) : (put2 w g a b).heap[k]? = w.heap[k]? := by
  have e : ∀ (i : Nat) (W : World) (u : Value), (W.setCell ⟨g, i, none⟩ u).heap[k]? = W.heap[k]? := fun i W u => Below.heap_setCell W ⟨g, i, none⟩ u k (fun e => hk e.symm)
  exact (e 1 _ b).trans (e 0 _ a)
theorem put2_below {B : Nat} {a w : World} {g : Nat} (x y : Value) (h : Below B a w) (hg : B ≤ g) : Below B a (put2 w g x y) :=
  (h.setCell (p := ⟨g, 0, none⟩) hg _).setCell (p := ⟨g, 1, none⟩) hg _
section
variable {k : Nat} {a b : List ByteArray} {A B : Option Addr} {n0 n1 c d : Nat} {w : World}
theorem fitsA (e : n0 = a.length) (hr : Kd.C Kd.string w A a.length a) (hc : a.length ≤ c) {r : Bool} (h : laws_zzFits1.f k a = some r) : Aside0 (∀ w' : World, Below w.heap.size w w' → Calls Tryd.prog 4 #[.slice A n0 c] w' fun e w2 => e = .returned (.bool r) ∧ Below w'.heap.size w' w2) :=
  ⟨fun w' hw => e ▸ (laws_zzFits1.calls k A c a r w' (Kd.C_below hr hw) hc h).mono fun e w2 ⟨h1, h2⟩ => ⟨h1, bel_of_drawn h2⟩⟩
theorem packA (e : n0 = a.length) (e' : n1 = b.length) (hr : Kd.C Kd.string w A a.length a) (hc : a.length ≤ c) (hr' : Kd.C Kd.string w B b.length b) (hd : b.length ≤ d) {r : Bool} (h : laws_packagist.f k [a, b] = some r) : Aside0 (∀ (w' : World) (g : Nat), Below w.heap.size w w' → w'.heap[g]? = some (ZP A B n0 n1 c d) → Calls Tryd.prog 5 #[.slice (some ⟨g, 0, none⟩) 2 2] w' fun e w2 => e = .returned (.bool r) ∧ Below w'.heap.size w' w2) :=
  ⟨fun w' g hw hg => (laws_packagist.calls k (some ⟨g, 0, none⟩) 2 [a, b] r w' (row_p2 hg e e' hc hd (Kd.C_below hr hw) (Kd.C_below hr' hw)) (Nat.le_refl _) h).mono fun e w2 ⟨h1, h2⟩ => ⟨h1, bel_of_drawn h2⟩⟩
end
theorem digA (s : ByteArray) (h : s.size ≤ 1500) (w' : World) : Calls Tryd.prog 6 #[.string s] w' fun e w2 => e = .returned (.bool (dB s)) ∧ Below w'.heap.size w' w2 := by
  obtain ⟨k, hk⟩ := (dB_ev s h).rounds
  exact (laws_digits.calls k s _ w' hk).mono fun e w2 ⟨h1, h2⟩ => ⟨h1, bel_of_drawn h2⟩
theorem numA (s : ByteArray) (h : NumS s) (w' : World) : Calls Tryd.prog 7 #[.string s] w' fun e w2 => e = .returned (.tuple #[.agg #[.bool (told (nz s)).1, .string (told (nz s)).2], .bool true]) ∧ Below w'.heap.size w' w2 := by
  obtain ⟨k, hk⟩ := (num_ev h).rounds
  exact spec_Number.calls k s _ _ _ w' hk
set_option maxRecDepth 100000 in
theorem cmpA (x y : Int) (g h : Nat) (w' : World) (hg : w'.heap[g]? = some (.cells #[.bool (told x).1, .string (told x).2] 28 (0, 0))) (hh : w'.heap[h]? = some (.cells #[.bool (told y).1, .string (told y).2] 28 (0, 0))) : Calls Tryd.prog 8 #[.slice (some ⟨g, 0, none⟩) 1 1, .slice (some ⟨h, 0, none⟩) 1 1] w' fun e w2 => e = .returned (.int .i64 (cI x y)) ∧ Below w'.heap.size w' w2 := by
  obtain ⟨k, hk⟩ := (cmp1_ev x y).rounds
  exact spec_CompareNumbers.calls k (some ⟨g, 0, none⟩) 1 [(⟨(told x).1, (told x).2⟩ : S28)] (some ⟨h, 0, none⟩) 1 [(⟨(told y).1, (told y).2⟩ : S28)] (cI x y) w' (row_n1 hg) (Nat.le_refl _) (row_n1 hh) (Nat.le_refl _) hk
theorem firstA (x y : Int) (g : Nat) (w' : World) (hg : w'.heap[g]? = some (.cells #[.int .i64 x, .int .i64 y] 3 (0, 0))) : Calls Tryd.prog 10 #[.slice (some ⟨g, 0, none⟩) 2 2] w' fun e w2 => e = .returned (.int .i64 (if x = 0 then y else x)) ∧ Below w'.heap.size w' w2 := by
  obtain ⟨k, hk⟩ := (first2 x y).rounds
  exact (laws_first.calls k (some ⟨g, 0, none⟩) 2 [x, y] _ w' (row_i2 hg) (Nat.le_refl _) hk).mono fun e w2 ⟨h1, h2⟩ => ⟨h1, bel_of_drawn h2⟩
set_option maxRecDepth 100000 in
set_option maxHeartbeats 4000000 in
theorem p_fa (a b : List ByteArray) (A B : Option Addr) (n0 n1 c d k : Nat) (w : World) (e0 : n0 = a.length) (hr0 : Kd.C Kd.string w A a.length a) (hc : a.length ≤ c) (h : laws_zzFits1.f k a = some false) :
    Calls Tryd.prog 3 #[.slice A n0 c, .slice B n1 d] w fun e w' => e = .returned (.bool true) ∧ Below w.heap.size w w' := by
  have FA := fitsA e0 hr0 hc h
  clear e0 hr0 hc h
  go_enter Tryd.func3, Tryd.ntmps3
  go_wp2_with (first | (go_at_call 4; (with_reducible refine (FA.out _ (Below.refl _ _)).mono ?_); rintro e w1 ⟨rfl, d⟩; have D1 := Aside0.mk d; clear d))
  go_ret
  exact ⟨rfl, D1.out⟩
set_option maxRecDepth 100000 in
set_option maxHeartbeats 4000000 in
theorem p_fb (a b : List ByteArray) (A B : Option Addr) (n0 n1 c d k : Nat) (w : World) (e0 : n0 = a.length) (e1 : n1 = b.length) (hr0 : Kd.C Kd.string w A a.length a) (hc : a.length ≤ c) (hr1 : Kd.C Kd.string w B b.length b) (hd : b.length ≤ d) (h : laws_zzFits1.f k a = some true) (h' : laws_zzFits1.f k b = some false) :
    Calls Tryd.prog 3 #[.slice A n0 c, .slice B n1 d] w fun e w' => e = .returned (.bool true) ∧ Below w.heap.size w w' := by
  have FA := fitsA e0 hr0 hc h
  have FB := fitsA e1 hr1 hd h'
  clear e0 hr0 hc h e1 hr1 hd h'
  go_enter Tryd.func3, Tryd.ntmps3
  go_wp2_with (first | (go_at_call 4; (with_reducible refine (FA.out _ (Below.refl _ _)).mono ?_); rintro e w1 ⟨rfl, d⟩; have D1 := Aside0.mk d; clear d) | (go_at_call 4; (with_reducible refine (FB.out _ D1.out).mono ?_); rintro e w2 ⟨rfl, d⟩; have D2 := Aside0.mk (below_then D1.out D1.out.size d); clear d))
  go_ret
  exact ⟨rfl, D2.out⟩
set_option maxRecDepth 100000 in
set_option maxHeartbeats 4000000 in
theorem p_la (a b : List ByteArray) (A B : Option Addr) (n0 n1 c d k : Nat) (w : World) (e0 : n0 = a.length) (e1 : n1 = b.length) (hr0 : Kd.C Kd.string w A a.length a) (hc : a.length ≤ c) (hr1 : Kd.C Kd.string w B b.length b) (hd : b.length ≤ d) (h : laws_zzFits1.f k a = some true) (h' : laws_zzFits1.f k b = some true) (l0 : (n0 : Int) = 0) :
    Calls Tryd.prog 3 #[.slice A n0 c, .slice B n1 d] w fun e w' => e = .returned (.bool true) ∧ Below w.heap.size w w' := by
  have FA := fitsA e0 hr0 hc h
  have FB := fitsA e1 hr1 hd h'
  clear e0 hr0 hc h e1 hr1 hd h'
  go_enter Tryd.func3, Tryd.ntmps3
  go_wp2_with (first | (go_at_call 4; (with_reducible refine (FA.out _ (Below.refl _ _)).mono ?_); rintro e w1 ⟨rfl, d⟩; have D1 := Aside0.mk d; clear d) | (go_at_call 4; (with_reducible refine (FB.out _ D1.out).mono ?_); rintro e w2 ⟨rfl, d⟩; have D2 := Aside0.mk (below_then D1.out D1.out.size d); clear d))
  go_ret
  exact ⟨rfl, D2.out⟩
set_option maxRecDepth 100000 in
set_option maxHeartbeats 4000000 in
theorem p_lb (a b : List ByteArray) (A B : Option Addr) (n0 n1 c d k : Nat) (w : World) (e0 : n0 = a.length) (e1 : n1 = b.length) (hr0 : Kd.C Kd.string w A a.length a) (hc : a.length ≤ c) (hr1 : Kd.C Kd.string w B b.length b) (hd : b.length ≤ d) (h : laws_zzFits1.f k a = some true) (h' : laws_zzFits1.f k b = some true) (l0 : ¬ (n0 : Int) = 0) (l1 : (n1 : Int) = 0) :
    Calls Tryd.prog 3 #[.slice A n0 c, .slice B n1 d] w fun e w' => e = .returned (.bool true) ∧ Below w.heap.size w w' := by
  have FA := fitsA e0 hr0 hc h
  have FB := fitsA e1 hr1 hd h'
  clear e0 hr0 hc h e1 hr1 hd h'
  go_enter Tryd.func3, Tryd.ntmps3
  go_wp2_with (first | (go_at_call 4; (with_reducible refine (FA.out _ (Below.refl _ _)).mono ?_); rintro e w1 ⟨rfl, d⟩; have D1 := Aside0.mk d; clear d) | (go_at_call 4; (with_reducible refine (FB.out _ D1.out).mono ?_); rintro e w2 ⟨rfl, d⟩; have D2 := Aside0.mk (below_then D1.out D1.out.size d); clear d))
  go_ret
  exact ⟨rfl, D2.out⟩
set_option maxRecDepth 100000 in
set_option maxHeartbeats 4000000 in
theorem p_pk (a b : List ByteArray) (A B : Option Addr) (n0 n1 c d k : Nat) (w : World) (e0 : n0 = a.length) (e1 : n1 = b.length) (hr0 : Kd.C Kd.string w A a.length a) (hc : a.length ≤ c) (hr1 : Kd.C Kd.string w B b.length b) (hd : b.length ≤ d) (h : laws_zzFits1.f k a = some true) (h' : laws_zzFits1.f k b = some true) (l0 : ¬ (n0 : Int) = 0) (l1 : ¬ (n1 : Int) = 0) (hp : laws_packagist.f k [a, b] = some false) :
    Calls Tryd.prog 3 #[.slice A n0 c, .slice B n1 d] w fun e w' => e = .returned (.bool true) ∧ Below w.heap.size w w' := by
  have FA := fitsA e0 hr0 hc h
  have FB := fitsA e1 hr1 hd h'
  have PK := packA e0 e1 hr0 hc hr1 hd hp
  clear e0 hr0 hc h e1 hr1 hd h' hp
  have q0 : ((n0 : Int) == 0) = false := beq_eq_false_iff_ne.2 l0
  have q1 : ((n1 : Int) == 0) = false := beq_eq_false_iff_ne.2 l1
  go_enter Tryd.func3, Tryd.ntmps3
  go_wp2_with (first | (go_at_call 4; (with_reducible refine (FA.out _ (Below.refl _ _)).mono ?_); rintro e w1 ⟨rfl, d⟩; have D1 := Aside0.mk d; clear d) | (go_at_call 4; (with_reducible refine (FB.out _ D1.out).mono ?_); rintro e w2 ⟨rfl, d⟩; have D2 := Aside0.mk (below_then D1.out D1.out.size d); clear d) | (go_at_call 5; (with_reducible refine (PK.out _ _ (below_alloc D2.out _) (blk_new _ _)).mono ?_); rintro e w3 ⟨rfl, d⟩; have D3 := Aside0.mk (below_then (below_alloc D2.out _) (below_alloc D2.out _).size d); clear d))
  go_ret
  exact ⟨rfl, D3.out⟩
/-- All of the lists that were looked at are numbers. -/
def AllD (a b : List ByteArray) (i : Nat) : Prop := ∀ (q : Nat) (l : List ByteArray), q < i → [a, b][q]? = some l → ∀ s ∈ l, dB s = true
/-- How far the comparison is. -/
def Far (a b : List ByteArray) (i : Nat) (z : Int) : Prop := (z = 0 ∧ lexL nmC (a.drop i) (b.drop i) = lexL nmC a b) ∨ (z ≠ 0 ∧ lexL nmC a b = z)
theorem w2a (X Y : Obj) (w : World) : ((w.alloc X).alloc Y).heap[w.heap.size]? = some X ∧ ((w.alloc X).alloc Y).heap[w.heap.size + 1]? = some Y ∧ Below w.heap.size w ((w.alloc X).alloc Y) := by
  refine ⟨blk_alloc (blk_new w X) _, ?_, below_alloc (below_alloc (Below.refl _ _) _) _⟩
  have := blk_new (w.alloc X) Y
  simpa using this
theorem far_end {a b : List ByteArray} {n0 n1 i : Nat} {z : Int} (h : Far a b i z) (e0 : n0 = a.length) (e1 : n1 = b.length) (hi : z = 0 → i = min n0 n1) : (if z = 0 then cI (n0 : Int) (n1 : Int) else z) = lexL nmC a b := by
  rcases h with ⟨hz, h⟩ | ⟨hz, h⟩
  · rw [if_pos hz, ← h, lo_end nmC a b i (by rw [hi hz, e0, e1]), e0, e1]
  · rw [if_neg hz, h]
theorem add0 (g i : Nat) : (⟨g, 0, none⟩ : Addr).add i = ⟨g, i, none⟩ := by
  unfold Addr.add
  split <;> simp_all
abbrev IO (x : Bool) (y : ByteArray) : Obj := .cells #[.bool x, .string y] 28
set_option maxRecDepth 100000 in
set_option maxHeartbeats 8000000 in
theorem p_main (a b : List ByteArray) (A B : Option Addr) (n0 n1 c d k : Nat) (w : World) (e0 : n0 = a.length) (e1 : n1 = b.length) (hr0 : Kd.C Kd.string w A a.length a) (hc : a.length ≤ c) (hr1 : Kd.C Kd.string w B b.length b) (hd : b.length ≤ d) (h : laws_zzFits1.f k a = some true) (h' : laws_zzFits1.f k b = some true) (l0 : ¬ (n0 : Int) = 0) (l1 : ¬ (n1 : Int) = 0) (hp : laws_packagist.f k [a, b] = some true) (pa : a.length ≤ 150 ∧ ∀ s ∈ a, Cp s) (pb : b.length ≤ 150 ∧ ∀ s ∈ b, Cp s) (hL : Laid w) :
    Calls Tryd.prog 3 #[.slice A n0 c, .slice B n1 d] w fun e w' => e = .returned (.bool true) ∧ Below w.heap.size w w' := by
  have FA := fitsA e0 hr0 hc h
  have FB := fitsA e1 hr1 hd h'
  have PK := packA e0 e1 hr0 hc hr1 hd hp
  have RW := Aside0.mk (fun (w' : World) (g : Nat) (hw : Below w.heap.size w w') (hg : w'.heap[g]? = some (ZP A B n0 n1 c d)) => row_p2 hg e0 e1 hc hd (Kd.C_below hr0 hw) (Kd.C_below hr1 hw))
  have ALL := Aside0.mk (show ∀ (q : Nat) (l : List ByteArray), [a, b][q]? = some l → l.length ≤ 150 ∧ ∀ s ∈ l, Cp s by
    intro q l hq
    match q, hq with
    | 0, hq => obtain rfl := Option.some.inj hq; exact pa
    | 1, hq => obtain rfl := Option.some.inj hq; exact pb)
  have E0 := Aside0.mk e0
  have E1 := Aside0.mk e1
  have HR0 := Aside0.mk hr0
  have HR1 := Aside0.mk hr1
  have HL := Aside0.mk hL
  have PA := Aside0.mk pa
  have PB := Aside0.mk pb
  clear e0 hr0 hc h e1 hr1 hd h' hp hL pa pb
  have q0 : ((n0 : Int) == 0) = false := beq_eq_false_iff_ne.2 l0
  have q1 : ((n1 : Int) == 0) = false := beq_eq_false_iff_ne.2 l1
  go_enter Tryd.func3, Tryd.ntmps3
  go_wp2_with (first | (go_at_call 4; (with_reducible refine (FA.out _ (Below.refl _ _)).mono ?_); rintro e w1 ⟨rfl, d⟩; have D1 := Aside0.mk d; clear d) | (go_at_call 4; (with_reducible refine (FB.out _ D1.out).mono ?_); rintro e w2 ⟨rfl, d⟩; have D2 := Aside0.mk (below_then D1.out D1.out.size d); clear d) | (go_at_call 5; (with_reducible refine (PK.out _ _ (below_alloc D2.out _) (blk_new _ _)).mono ?_); rintro e w3 ⟨rfl, d⟩; have D3 := Aside0.mk (below_then (below_alloc D2.out _) (below_alloc D2.out _).size d); clear d))
  clear FA FB PK
  go_loopw [42] (fun v42 wr => ∃ i : Nat, v42 = .int .i64 i ∧ i ≤ 2 ∧ Below w.heap.size w wr ∧ wr.heap[w3.heap.size]? = some (ZP A B n0 n1 c d) ∧ AllD a b i) (fun v42 wr => 2 - (intOf v42).toNat)
  case atStart => exact ⟨0, rfl, Nat.zero_le _, below_alloc D3.out _, blk_new _ _, fun q l hq => absurd hq (Nat.not_lt_zero _)⟩
  case round =>
    obtain ⟨i, rfl, hi, hb, hz, hall⟩ := hrel
    by_cases hlt : i < 2
    · obtain ⟨adz, A0, c0, eadz, hx, hl0, hC0⟩ := at_L1 (RW.out wr _ hb hz) (i : Int) (by omega) (by show (i : Int) < ((2 : Nat) : Int); omega)
      obtain rfl := Option.some.inj eadz
      rw [rdL [a, b] i hlt, Int.toNat_natCast, add0] at hx
      rw [rdL [a, b] i hlt] at hl0 hC0
      have hget : [a, b][i]? = some ([a, b][i]'hlt) := List.getElem?_eq_getElem hlt
      have hcp := ALL.out i _ hget
      generalize [a, b][i]'hlt = l at *
      obtain ⟨n, hn⟩ : ∃ n, l.length = n := ⟨_, rfl⟩
      rw [hn] at hx
      have NL := Aside0.mk hn
      have HG := Aside0.mk hget
      have HCP := Aside0.mk hcp
      have HC0 := Aside0.mk hC0
      have HB := Aside0.mk hb
      have HZ := Aside0.mk hz
      have AD := Aside0.mk hall
      have I2 := Aside0.mk (show i + 1 ≤ 2 from hlt)
      have g4 : (i : Int) < 2 := by omega
      have wk0 : wrap64 ((i : Int) + 1) = ((i + 1 : Nat) : Int) := Pk.wr i (by omega)
      have N150 := Aside0.mk (show n ≤ 150 by rw [← hn]; exact hcp.1)
      clear hl0 hC0 hget hcp hn hb hz hall hlt hi
      go_wp2_with fail
      clear hx
      go_loopw [48] (fun v48 wr2 => ∃ j : Nat, v48 = .int .i64 j ∧ j ≤ n ∧ Below w.heap.size w wr2 ∧ Below wr.heap.size wr wr2 ∧ ∀ s ∈ l.take j, dB s = true) (fun v48 wr2 => n - (intOf v48).toNat)
      case atStart => exact ⟨0, rfl, Nat.zero_le _, HB.out, Below.refl _ _, fun s hs => absurd hs (by simp)⟩
      case round =>
        obtain ⟨j, rfl, hj, hb, hbr, hd⟩ := hrel
        by_cases hlt : j < n
        · have jl : j < l.length := by rw [NL.out]; exact hlt
          obtain ⟨ads, rfl, cs0⟩ := Kd.at_string (Kd.C_below HC0.out hbr) (j : Int) (by omega) (by omega)
          rw [rdOf_nat _ _ j jl, Int.toNat_natCast] at cs0
          have sz := (HCP.out.2 _ (List.getElem_mem jl)).1
          have TK := Aside0.mk (show dB (l[j]'jl) = true → ∀ s ∈ l.take (j + 1), dB s = true by
            intro h s hs
            rw [List.take_succ_eq_append_getElem jl] at hs
            rcases List.mem_append.1 hs with hs | hs
            · exact hd s hs
            · rw [List.mem_singleton.1 hs]
              exact h)
          generalize l[j]'jl = s at *
          have DG := Aside0.mk (digA s sz)
          have g5 : (j : Int) < (n : Int) := Int.ofNat_lt.2 hlt
          have wk : wrap64 ((j : Int) + 1) = ((j + 1 : Nat) : Int) := Pk.wr j (by have := N150.out; omega)
          have JN := Aside0.mk (show j + 1 ≤ n from hlt)
          have HB2 := Aside0.mk hb
          have HBR := Aside0.mk hbr
          clear sz hd hb hbr hj hlt jl
          obtain ⟨q, hq⟩ : ∃ q, dB s = q := ⟨_, rfl⟩
          rw [hq] at DG TK
          clear hq
          cases q with
          | true =>
            go_wp2_with (first | (go_at_call 6; (with_reducible refine (DG.out _).mono ?_); rintro e w5 ⟨rfl, d⟩; have D5 := Aside0.mk (below_then HB2.out HB2.out.size d); have D6 := Aside0.mk (below_then HBR.out HBR.out.size d); clear d))
            go_roundw
            case rel => exact ⟨j + 1, by rw [wk], JN.out, D5.out, D6.out, by first | exact TK.out rfl | exact TK.out trivial⟩
            case measure =>
              rw [wk]
              exact pm_lt JN.out
          | false =>
            go_wp2_with (first | (go_at_call 6; (with_reducible refine (DG.out _).mono ?_); rintro e w5 ⟨rfl, d⟩; have D5 := Aside0.mk (below_then HB2.out HB2.out.size d); clear d))
            go_ret
            exact ⟨rfl, D5.out⟩
        · have ej : j = n := by omega
          have DD := Aside0.mk (show ∀ s ∈ l, dB s = true by
            intro s hs
            refine hd s ?_
            rw [List.take_of_length_le (by rw [NL.out]; omega)]
            exact hs)
          have g5 : ¬ (j : Int) < (n : Int) := by omega
          have HB2 := Aside0.mk hb
          have HZ2 := Aside0.mk ((hbr.block _ (blk_lt HZ.out)).trans HZ.out)
          clear hd hb hbr hj hlt ej
          go_wp2_with fail
          go_roundw
          case rel =>
            refine ⟨i + 1, by first | rfl | rw [wk0], I2.out, HB2.out, HZ2.out, fun q l' hq hl' => ?_⟩
            rcases Nat.lt_or_ge q i with h | h
            · exact AD.out q l' h hl'
            · obtain rfl : q = i := by omega
              rw [HG.out] at hl'
              rw [← Option.some.inj hl']
              exact DD.out
          case measure =>
            first | exact pm_lt I2.out | (rw [wk0]; exact pm_lt I2.out)
    · have ei : i = 2 := by omega
      subst ei
      have NA := Aside0.mk (fun (s : ByteArray) (hs : s ∈ a) => dB_num (hall 0 a (by decide) rfl s hs) (PA.out.2 s hs))
      have NB := Aside0.mk (fun (s : ByteArray) (hs : s ∈ b) => dB_num (hall 1 b (by decide) rfl s hs) (PB.out.2 s hs))
      have g4 : ¬ ((2 : Nat) : Int) < 2 := by omega
      have HB := Aside0.mk hb
      clear hall hz hb hlt hi RW ALL
      have N0 := Aside0.mk (show n0 ≤ 150 by rw [E0.out]; exact PA.out.1)
      have N1 := Aside0.mk (show n1 ≤ 150 by rw [E1.out]; exact PB.out.1)
      have SG := Aside0.mk (fun w' => laws_sign.calls (wrap64 ((n0 : Int) - (n1 : Int))) (cI (n0 : Int) (n1 : Int)) w' (sgn n0 n1 (by have := N0.out; omega) (by have := N1.out; omega)))
      have PKC := Aside0.mk (fun (w' : World) (hw : Below w.heap.size w w') => implPack_calls a b A B n0 n1 c d E0.out E1.out w' (Kd.C_below HR0.out hw) (Kd.C_below HR1.out hw) NA.out NB.out (by have := PA.out.1; omega) (by have := PB.out.1; omega) (HL.out.below hw))
      go_wp2_with fail
      go_loopw [9, 10] (fun v9 v10 wr2 => ∃ (i : Nat) (z : Int), v9 = .int .i64 z ∧ v10 = .int .i64 i ∧ i ≤ min n0 n1 ∧ Below w.heap.size w wr2 ∧ Far a b i z) (fun v9 v10 wr2 => min n0 n1 - (intOf v10).toNat)
      case atStart => exact ⟨0, 0, rfl, rfl, Nat.zero_le _, HB.out, .inl ⟨rfl, rfl⟩⟩
      case round =>
        obtain ⟨i, z, rfl, rfl, hi, hb, hf⟩ := hrel
        have HB2 := Aside0.mk hb
        by_cases ca : i < n0
        · by_cases cb : i < n1
          · by_cases cz : z = 0
            · subst cz
              have la : i < a.length := by rw [← E0.out]; exact ca
              have lb : i < b.length := by rw [← E1.out]; exact cb
              obtain ⟨adx, rfl, cx0⟩ := Kd.at_string (Kd.C_below HR0.out hb) (i : Int) (by omega) (by omega)
              obtain ⟨ady, rfl, cy0⟩ := Kd.at_string HR1.out (i : Int) (by omega) (by omega)
              rw [rdOf_nat _ _ i la, Int.toNat_natCast] at cx0
              rw [rdOf_nat _ _ i lb, Int.toNat_natCast] at cy0
              have st := lo_drop nmC a b i la lb
              have nx := NA.out _ (List.getElem_mem la)
              have ny := NB.out _ (List.getElem_mem lb)
              generalize a[i]'la = x at *
              generalize b[i]'lb = y at *
              have FAR : Aside0 (Far a b (i + 1) (nmC x y)) := ⟨by
                rcases hf with ⟨_, hf⟩ | ⟨hf, _⟩
                · rw [hf] at st
                  by_cases e : nmC x y = 0
                  · rw [if_pos e] at st
                    exact .inl ⟨e, st.symm⟩
                  · rw [if_neg e] at st
                    exact .inr ⟨e, st⟩
                · exact absurd rfl hf⟩
              have cellY := Aside0.mk (show ∀ w', Below w.heap.size w w' → w'.cell? (ady.add i) = some (.string y) from fun w' h => pw_cell_below h cy0)
              have NXC := Aside0.mk (fun w' => numA x nx w')
              have NYC := Aside0.mk (fun w' => numA y ny w')
              have f1 : (i : Int) < (n0 : Int) := Int.ofNat_lt.2 ca
              have f2 : (i : Int) < (n1 : Int) := Int.ofNat_lt.2 cb
              have MIN := Aside0.mk (show i + 1 ≤ min n0 n1 by omega)
              have wk : wrap64 ((i : Int) + 1) = ((i + 1 : Nat) : Int) := Pk.wr i (by have := N0.out; omega)
              have CC := Aside0.mk (fun (W : World) => cmpA (nz x) (nz y) W.heap.size (W.heap.size + 1) _ (w2a (IO (told (nz x)).1 (told (nz x)).2) (IO (told (nz y)).1 (told (nz y)).2) W).1 (w2a (IO (told (nz x)).1 (told (nz x)).2) (IO (told (nz y)).1 (told (nz y)).2) W).2.1)
              rw [show cI (nz x) (nz y) = nmC x y from rfl] at CC
              clear st nx ny hf hb cy0 hi ca cb la lb
              generalize (told (nz x)).1 = xs at *
              generalize (told (nz x)).2 = xm at *
              generalize (told (nz y)).1 = ys at *
              generalize (told (nz y)).2 = ym at *
              go_upto_region 20 with (first | (go_at_call 7; (with_reducible refine (NXC.out _).mono ?_); rintro e w5 ⟨rfl, d⟩; have D5 := Aside0.mk (below_then HB2.out HB2.out.size d); have k5 := blk_new w5 (IO false ⟨#[]⟩); have z50 := blk_cell k5 0; have z51 := blk_cell k5 1; have y50 := blk_frozen k5 0; have y51 := blk_frozen k5 1; have K5 := Aside0.mk k5; clear d k5))
              have P5 := below_alloc D5.out (IO xs xm)
              have X5 := blk_new w5 (IO xs xm)
              clear z50 z51 y50 y51 K5 cx0
              generalize w5.alloc (Obj.cells #[.bool xs, .string xm] 28) = u1 at *
              have yc := cellY.out u1 P5
              have Q5 := Aside0.mk P5
              have Y5 := Aside0.mk X5
              clear P5 X5
              go_upto_region 21 with (first | (go_at_call 7; (with_reducible refine (NYC.out _).mono ?_); rintro e w6 ⟨rfl, d⟩; have D6 := Aside0.mk (below_then Q5.out Q5.out.size d); have X6 := Aside0.mk (blk_below Y5.out d); have k6 := blk_new w6 (IO false ⟨#[]⟩); have z60 := blk_cell k6 0; have z61 := blk_cell k6 1; have y60 := blk_frozen k6 0; have y61 := blk_frozen k6 1; have K6 := Aside0.mk k6; clear d k6))
              have P6 := below_alloc D6.out (IO ys ym)
              have W6 := blk_new w6 (IO ys ym)
              have V6 := blk_alloc X6.out (IO ys ym)
              clear z60 z61 y60 y61 K6 yc
              generalize w6.alloc (Obj.cells #[.bool ys, .string ym] 28) = u2 at *
              have v60 := blk_cell V6 0
              have v61 := blk_cell V6 1
              have s60 := blk_cell W6 0
              have s61 := blk_cell W6 1
              have t60 := blk_cell (blk_alloc W6 (IO xs xm)) 0
              have t61 := blk_cell (blk_alloc W6 (IO xs xm)) 1
              have Q6 := Aside0.mk P6
              clear P6 W6 V6
              go_wp2_with (first | (go_at_call 8; (with_reducible refine (CC.out u2).mono ?_); rintro e w7 ⟨rfl, d⟩; have D7 := Aside0.mk (below_then (below_alloc (below_alloc Q6.out _) _) (below_alloc (below_alloc Q6.out _) _).size d); clear d))
              go_roundw
              case rel => exact ⟨i + 1, nmC x y, rfl, by rw [wk], MIN.out, D7.out, FAR.out⟩
              case measure =>
                rw [wk]
                exact pm_lt MIN.out
            · have RES := Aside0.mk (far_end hf E0.out E1.out (fun h => absurd h cz))
              have FS := Aside0.mk (fun (w' : World) (g : Nat) (hg : w'.heap[g]? = some (.cells #[.int .i64 z, .int .i64 (cI (n0 : Int) (n1 : Int))] 3 (0, 0))) => RES.out ▸ firstA z (cI (n0 : Int) (n1 : Int)) g w' hg)
              generalize lexL nmC a b = R at *
              have f1 : (i : Int) < (n0 : Int) := Int.ofNat_lt.2 ca
              have f2 : (i : Int) < (n1 : Int) := Int.ofNat_lt.2 cb
              clear hf hb hi
              go_wp2_with (first | (go_at_call 9; (with_reducible refine (PKC.out _ HB2.out).mono ?_); rintro e w5 ⟨rfl, d⟩; have D5 := Aside0.mk (below_then HB2.out HB2.out.size d); clear d) | (go_at_call 11; (with_reducible refine (SG.out _).mono ?_); rintro e w6 ⟨rfl, d⟩; have D6 := Aside0.mk (below_then D5.out D5.out.size d); clear d) | (go_at_call 10; (with_reducible refine (FS.out _ _ (blk_new _ _)).mono ?_); rintro e w7 ⟨rfl, d⟩; have D7 := Aside0.mk (below_then (below_alloc D6.out _) (below_alloc D6.out _).size d); clear d))
              go_ret
              exact ⟨rfl, D7.out⟩
          · have RES := Aside0.mk (far_end hf E0.out E1.out (fun _ => by omega))
            have FS := Aside0.mk (fun (w' : World) (g : Nat) (hg : w'.heap[g]? = some (.cells #[.int .i64 z, .int .i64 (cI (n0 : Int) (n1 : Int))] 3 (0, 0))) => RES.out ▸ firstA z (cI (n0 : Int) (n1 : Int)) g w' hg)
            generalize lexL nmC a b = R at *
            have f1 : (i : Int) < (n0 : Int) := Int.ofNat_lt.2 ca
            have f2 : ¬ (i : Int) < (n1 : Int) := by omega
            clear hf hb hi
            go_wp2_with (first | (go_at_call 9; (with_reducible refine (PKC.out _ HB2.out).mono ?_); rintro e w5 ⟨rfl, d⟩; have D5 := Aside0.mk (below_then HB2.out HB2.out.size d); clear d) | (go_at_call 11; (with_reducible refine (SG.out _).mono ?_); rintro e w6 ⟨rfl, d⟩; have D6 := Aside0.mk (below_then D5.out D5.out.size d); clear d) | (go_at_call 10; (with_reducible refine (FS.out _ _ (blk_new _ _)).mono ?_); rintro e w7 ⟨rfl, d⟩; have D7 := Aside0.mk (below_then (below_alloc D6.out _) (below_alloc D6.out _).size d); clear d))
            go_ret
            exact ⟨rfl, D7.out⟩
        · have RES := Aside0.mk (far_end hf E0.out E1.out (fun _ => by omega))
          have FS := Aside0.mk (fun (w' : World) (g : Nat) (hg : w'.heap[g]? = some (.cells #[.int .i64 z, .int .i64 (cI (n0 : Int) (n1 : Int))] 3 (0, 0))) => RES.out ▸ firstA z (cI (n0 : Int) (n1 : Int)) g w' hg)
          generalize lexL nmC a b = R at *
          have f1 : ¬ (i : Int) < (n0 : Int) := by omega
          clear hf hb hi
          go_wp2_with (first | (go_at_call 9; (with_reducible refine (PKC.out _ HB2.out).mono ?_); rintro e w5 ⟨rfl, d⟩; have D5 := Aside0.mk (below_then HB2.out HB2.out.size d); clear d) | (go_at_call 11; (with_reducible refine (SG.out _).mono ?_); rintro e w6 ⟨rfl, d⟩; have D6 := Aside0.mk (below_then D5.out D5.out.size d); clear d) | (go_at_call 10; (with_reducible refine (FS.out _ _ (blk_new _ _)).mono ?_); rintro e w7 ⟨rfl, d⟩; have D7 := Aside0.mk (below_then (below_alloc D6.out _) (below_alloc D6.out _).size d); clear d))
          go_ret
          exact ⟨rfl, D7.out⟩
end Go.Proofs.YtmbgkdklgdkikaaDoor.Giv
