/- The walk of the law FnMavenSame: a version of Maven is equal to itself. -/
import Derived.Test.YtkecmlpihnjjgaaDoorLGivMc
namespace Go.Proofs.YtkecmlpihnjjgaaDoor.Giv
open Go.RowKit Go.Proofs.YtkecmlpihnjjgaaDoorW.PrintWords Go.Proofs.YtkecmlpihnjjgaaDoorW.PrintLast Go.Proofs.YtkecmlpihnjjgaaDoor.Pk Go.Proofs.YtkecmlpihnjjgaaDoor.Ord Go.Proofs.YtkecmlpihnjjgaaDoor.QL
set_option linter.unusedVariables false
set_option linter.unusedSimpArgs false

/-- A literal row of one list of tokens, that came in. -/
theorem row_l1 {g n c t : Nat} {A : Option Addr} {l : List S31} {w : World} (hg : w.heap[g]? = some (.cells #[.slice A n c] t (0, 0))) (e : n = l.length) (hc : l.length ≤ c) (hC : Kd.C k31 w A l.length l) : Kd.C (Kd.slice 31 k31) w (some ⟨g, 0, none⟩) [l].length [l] := by
  subst e
  refine ⟨rfl, by simp, fun _ => ⟨_, rfl, fun j p hj => ?_⟩⟩
  have h0 : j = 0 := by
    have := (List.getElem?_eq_some_iff.1 hj).1
    simpa using this
  subst h0
  obtain rfl : l = p := by simpa using hj
  refine ⟨[.slice A l.length c], rfl, ⟨A, c, rfl, hc, hC⟩, ?_⟩
  intro i u hu
  have h1 : i = 0 := by
    have := (List.getElem?_eq_some_iff.1 hu).1
    simpa using this
  subst h1
  obtain rfl : Value.slice A l.length c = u := by simpa using hu
  exact (blk_cell hg 0).trans rfl
/-- A literal row of two lists of tokens. -/
theorem row_l2 {g n n' c d t : Nat} {A B : Option Addr} {l m : List S31} {w : World} (hg : w.heap[g]? = some (.cells #[.slice A n c, .slice B n' d] t (0, 0))) (e : n = l.length) (e' : n' = m.length) (hc : l.length ≤ c) (hd : m.length ≤ d) (hC : Kd.C k31 w A l.length l) (hD : Kd.C k31 w B m.length m) : Kd.C (Kd.slice 31 k31) w (some ⟨g, 0, none⟩) [l, m].length [l, m] := by
  subst e e'
  refine ⟨rfl, by simp, fun _ => ⟨_, rfl, fun j p hj => ?_⟩⟩
  have h0 : j < 2 := by
    have := (List.getElem?_eq_some_iff.1 hj).1
    simpa using this
  have one : ∀ (i : Nat) (u v : Value), ([v] : List Value)[i]? = some u → i = 0 ∧ v = u := by
    intro i u v hu
    have h1 : i = 0 := by
      have := (List.getElem?_eq_some_iff.1 hu).1
      simpa using this
    subst h1
    exact ⟨rfl, by simpa using hu⟩
  match j, h0 with
  | 0, _ =>
    obtain rfl : l = p := by simpa using hj
    refine ⟨[.slice A l.length c], rfl, ⟨A, c, rfl, hc, hC⟩, ?_⟩
    intro i u hu
    obtain ⟨rfl, rfl⟩ := one i u _ hu
    exact (blk_cell hg 0).trans rfl
  | 1, _ =>
    obtain rfl : m = p := by simpa using hj
    refine ⟨[.slice B m.length d], rfl, ⟨B, d, rfl, hd, hD⟩, ?_⟩
    intro i u hu
    obtain ⟨rfl, rfl⟩ := one i u _ hu
    exact (blk_cell hg 1).trans rfl
theorem tok1_calls (k : Nat) {g n c t : Nat} {A : Option Addr} {l : List S31} {w : World} (b : Bool) (hg : w.heap[g]? = some (.cells #[.slice A n c] t (0, 0))) (e : n = l.length) (hc : l.length ≤ c) (hC : Kd.C k31 w A l.length l) (h : laws_tokens.f k [l] = some b) :
    Calls Tryd.prog 6 #[.slice (some ⟨g, 0, none⟩) 1 1] w fun e w' => e = .returned (.bool b) ∧ Below w.heap.size w w' :=
  laws_tokens.calls k (some ⟨g, 0, none⟩) 1 [l] b w (row_l1 hg e hc hC) (Nat.le_refl _) h
/-- What of a list of tokens is told beside the walk. -/
def SameP (l : List S31) : Prop := ∃ k, laws_zzFits10.f k l = some false ∨ (laws_zzFits10.f k l = some true ∧ laws_tokens.f k [l] = some false) ∨ (laws_zzFits10.f k l = some true ∧ laws_tokens.f k [l] = some true ∧ l.length ≤ 100000 ∧ (∃ l', impl_maven.f k l = some l' ∧ l'.length = l.length) ∧ spec_MavenCompare.f k l l = some (0, true))
set_option maxRecDepth 100000 in
set_option maxHeartbeats 4000000 in
theorem same_calls (A : Option Addr) (c : Nat) (l : List S31) (w : World) (hC : Kd.C k31 w A l.length l) (hc : l.length ≤ c) (h : SameP l) :
    Calls Tryd.prog 3 #[.slice A l.length c] w fun e w' => e = .returned (.bool true) ∧ Below w.heap.size w w' := by
  obtain ⟨n, hn⟩ : ∃ n, l.length = n := ⟨_, rfl⟩
  obtain ⟨k, h⟩ := h
  have cf : ∀ b, laws_zzFits10.f k l = some b → Calls Tryd.prog 5 #[.slice A n c] w fun e w' => e = .returned (.bool b) ∧ Below w.heap.size w w' := by
    intro b hb
    rw [← hn]
    exact laws_zzFits10.calls k A c l b w hC hc hb
  have ct : ∀ (b : Bool) (g : Nat) (w' : World), laws_tokens.f k [l] = some b → Below w.heap.size w w' → w'.heap[g]? = some (.cells #[.slice A n c] 22 (0, 0)) → Calls Tryd.prog 6 #[.slice (some ⟨g, 0, none⟩) 1 1] w' fun e w2 => e = .returned (.bool b) ∧ Below w'.heap.size w' w2 :=
    fun b g w' hb hw hg => tok1_calls k b hg hn.symm hc (Kd.C_below hC hw) hb
  rw [hn]
  rcases h with h1 | ⟨h1, h2⟩ | ⟨h1, h2, h3, ⟨l', h4, h5⟩, h6⟩
  · have c1 := cf _ h1
    clear cf ct hC hc hn h1
    go_enter Tryd.func3, Tryd.ntmps3
    go_wp2_with (first | (go_at_call 5; (with_reducible refine c1.mono ?_); rintro e w1 ⟨rfl, d1⟩; have D1 := Aside0.mk d1; clear d1))
    go_ret
    exact ⟨rfl, D1.out⟩
  · have c1 := cf _ h1
    have c2 := Aside0.mk (fun g w' => ct _ g w' h2)
    clear cf ct hC hc hn h1 h2
    go_enter Tryd.func3, Tryd.ntmps3
    go_wp2_with (first | (go_at_call 5; (with_reducible refine c1.mono ?_); rintro e w1 ⟨rfl, d1⟩; have D1 := Aside0.mk d1; clear d1) | (go_at_call 6; (with_reducible refine (c2.out _ _ (below_alloc D1.out _) (blk_new _ _)).mono ?_); rintro e w2 ⟨rfl, d2⟩; have D2 := Aside0.mk (below_then (below_alloc D1.out _) (below_alloc D1.out _).size d2); clear d2))
    go_ret
    exact ⟨rfl, D2.out⟩
  · have c1 := cf _ h1
    have c2 := Aside0.mk (fun g w' => ct _ g w' h2)
    have c3 := Aside0.mk (fun (w' : World) (hw : Below w.heap.size w w') => implM_calls k A A c c n l l l' l' 0 w' hn.symm hn.symm (Kd.C_below hC hw) (Kd.C_below hC hw) hc hc h4 h4 (h5.trans hn) (h5.trans hn) (fun A' B' c' d' w2 _ r1 r2 => mcmp_same A' B' c' d' n l' l' w2 (h5.trans hn).symm r1 r2 (by rw [h5]; exact h3) ⟨rfl, fun i x y hx hy => by
      rw [hx] at hy
      rw [← Option.some.inj hy]
      unfold tkE
      simp⟩))
    have c4 := Aside0.mk (fun (w' : World) (hw : Below w.heap.size w w') => (show Calls Tryd.prog 8 #[.slice A n c, .slice A n c] w' fun e w2 => e = .returned (.tuple #[.int .i64 0, .bool true]) ∧ Below w'.heap.size w' w2 by
      rw [← hn]
      exact spec_MavenCompare.calls k A c l A c l 0 true w' (Kd.C_below hC hw) hc (Kd.C_below hC hw) hc h6))
    clear cf ct hC hc hn h1 h2 h3 h4 h5 h6
    go_enter Tryd.func3, Tryd.ntmps3
    go_wp2_with (first | (go_at_call 5; (with_reducible refine c1.mono ?_); rintro e w1 ⟨rfl, d1⟩; have D1 := Aside0.mk d1; clear d1) | (go_at_call 6; (with_reducible refine (c2.out _ _ (below_alloc D1.out _) (blk_new _ _)).mono ?_); rintro e w2 ⟨rfl, d2⟩; have D2 := Aside0.mk (below_then (below_alloc D1.out _) (below_alloc D1.out _).size d2); clear d2) | (go_at_call 7; (with_reducible refine (c3.out _ D2.out).mono ?_); rintro e w3 ⟨rfl, d3⟩; have D3 := Aside0.mk (below_then D2.out D2.out.size d3); clear d3) | (go_at_call 8; (with_reducible refine (c4.out _ D3.out).mono ?_); rintro e w4 ⟨rfl, d4⟩; have D4 := Aside0.mk (below_then D3.out D3.out.size d4); clear d4))
    go_ret
    exact ⟨rfl, D4.out⟩
end Go.Proofs.YtkecmlpihnjjgaaDoor.Giv
