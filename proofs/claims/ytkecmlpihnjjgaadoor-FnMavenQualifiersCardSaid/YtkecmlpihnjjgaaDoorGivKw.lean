/- Contracts by hand: the place of a qualifier of Maven among the known ones; the table of these beside the errors. -/
import Derived.Test.YtkecmlpihnjjgaaDoorZC
import Derived.Test.YtkecmlpihnjjgaaDoorGivIf
import Derived.Outline
namespace Go.Proofs.YtkecmlpihnjjgaaDoor.Giv
open Go.RowKit Go.Proofs.YtkecmlpihnjjgaaDoorW.PrintWords Go.Proofs.YtkecmlpihnjjgaaDoorW.PrintLast Go.Proofs.YtkecmlpihnjjgaaDoor.Pk Go.Proofs.YtkecmlpihnjjgaaDoor.Ord
set_option linter.unusedVariables false
set_option linter.unusedSimpArgs false

/-- The known qualifiers, the smallest first. -/
def kws : List ByteArray := [⟨#[97, 108, 112, 104, 97]⟩, ⟨#[98, 101, 116, 97]⟩, ⟨#[109, 105, 108, 101, 115, 116, 111, 110, 101]⟩, ⟨#[114, 99]⟩, ⟨#[115, 110, 97, 112, 115, 104, 111, 116]⟩, ⟨#[]⟩, ⟨#[115, 112]⟩]
theorem kws_len : kws.length = 7 := rfl
/-- The errors that are variables, and the table of qualifiers. -/
structure LaidK (w : World) : Prop where
  toLaid : Laid w
  kw : ∃ (A : Option Addr) (c : Nat), w.cell? ⟨0, 0, none⟩ = some (.slice A 7 c) ∧ Kd.C Kd.string w A 7 kws
theorem LaidK.below {w w' : World} (h : LaidK w) (hb : Below w.heap.size w w') : LaidK w' := by
  obtain ⟨A, c, h1, h2⟩ := h.kw
  exact ⟨h.toLaid.below hb, A, c, pw_cell_below hb h1, Kd.C_below h2 hb⟩
/-- A qualifier's place. -/
def kwN (s : ByteArray) : Nat := kws.findIdx (fun k => k.toList == s.toList)
theorem kwN_le (s : ByteArray) : kwN s ≤ 7 := List.findIdx_le_length
theorem kwN_hit {s : ByteArray} {j : Nat} (hj : j < 7) (h1 : j ≤ kwN s) (h : ((kws[j]'hj).toList == s.toList) = true) : kwN s = j := by
  rcases Nat.lt_or_ge j (kwN s) with h2 | h2
  · have := List.not_of_lt_findIdx h2
    exact absurd (h.symm.trans this) (by simp)
  · omega
theorem kwN_miss {s : ByteArray} {j : Nat} (hj : j < 7) (h1 : j ≤ kwN s) (h : ((kws[j]'hj).toList == s.toList) = false) : j + 1 ≤ kwN s := by
  rcases Nat.lt_or_ge j (kwN s) with h2 | h2
  · exact h2
  · have e : kwN s = j := by omega
    subst e
    have := List.findIdx_getElem (w := (show kws.findIdx (fun k => k.toList == s.toList) < kws.length from hj))
    exact absurd (h.symm.trans this) (by simp)
set_option maxRecDepth 100000 in
set_option maxHeartbeats 4000000 in
theorem find_calls (s : ByteArray) (w : World) (hL : LaidK w) :
    Calls Tryd.prog 31 #[.string s] w fun e w' => e = .returned (.int .i64 (kwN s : Int)) ∧ Below w.heap.size w w' := by
  obtain ⟨A, c, hg, hC⟩ := hL.kw
  have HC := Aside0.mk hC
  clear hC hL
  have HG := Aside0.mk hg
  go_enter Tryd.func31, Tryd.ntmps31
  go_wp2_with fail
  clear hg
  go_loopw [7] (fun v7 wr => ∃ j : Nat, v7 = .int .i64 j ∧ j ≤ 7 ∧ j ≤ kwN s ∧ Below w.heap.size w wr) (fun v7 wr => 7 - (intOf v7).toNat)
  case atStart => exact ⟨0, rfl, Nat.zero_le _, Nat.zero_le _, Below.refl _ _⟩
  case round =>
    obtain ⟨j, rfl, hj, hk, hb⟩ := hrel
    have BL := Aside0.mk hb
    by_cases hlt : j < 7
    · obtain ⟨ad, rfl, cx0⟩ := Kd.at_string (Kd.C_below HC.out hb) (j : Int) (by omega) (by omega)
      rw [rdOf_nat _ _ j (show j < kws.length from hlt), Int.toNat_natCast] at cx0
      have g4 : (j : Int) < 7 := by omega
      have wk : wrap64 ((j : Int) + 1) = ((j + 1 : Nat) : Int) := Pk.wr j (by omega)
      have HIT := Aside0.mk (kwN_hit hlt hk)
      have MISS := Aside0.mk (kwN_miss hlt hk)
      have JL := Aside0.mk (show j + 1 ≤ 7 from hlt)
      generalize kws[j]'(show j < kws.length from hlt) = x at *
      clear hb hk hj hlt
      cases hx : (x.toList == s.toList) with
      | true =>
        have E := Aside0.mk (HIT.out hx)
        clear HIT MISS
        go_wp2_with fail
        go_ret
        exact ⟨by rw [E.out]; rfl, BL.out⟩
      | false =>
        have E := Aside0.mk (MISS.out hx)
        clear HIT MISS
        go_wp2_with fail
        go_roundw
        case rel => exact ⟨j + 1, rfl, JL.out, E.out, BL.out⟩
        case measure =>
          have := JL.out
          simp only [intOf]
          omega
    · have e : j = 7 := by omega
      subst e
      have E := Aside0.mk (show kwN s = 7 from Nat.le_antisymm (kwN_le s) hk)
      have hg := pw_cell_below hb HG.out
      have g4 : ¬ ((7 : Nat) : Int) < 7 := by omega
      clear hb hk hj hlt
      go_wp2_with fail
      go_ret
      exact ⟨by rw [E.out]; rfl, BL.out⟩
set_option maxRecDepth 100000 in
set_option maxHeartbeats 1000000 in
theorem zzKeyword_calls (s : ByteArray) (w : World) (hL : LaidK w) :
    Calls Tryd.prog 21 #[.string s] w fun e w' => e = .returned (.int .i64 (kwN s : Int)) ∧ Below w.heap.size w w' := by
  have c1 := find_calls s w hL
  clear hL
  go_enter Tryd.func21, Tryd.ntmps21
  go_wp2_with (first | (go_at_call 31; (with_reducible refine c1.mono ?_); rintro e w1 ⟨rfl, d1⟩; have D1 := Aside0.mk d1; clear d1))
  go_ret
  exact ⟨rfl, D1.out⟩
set_option maxRecDepth 100000 in
set_option maxHeartbeats 1000000 in
theorem implKeyword_calls (s : ByteArray) (w : World) (hL : LaidK w) :
    Calls Tryd.prog 13 #[.string s] w fun e w' => e = .returned (.int .i64 (kwN s : Int)) ∧ Below w.heap.size w w' := by
  have c1 := zzKeyword_calls s w hL
  clear hL
  go_enter Tryd.func13, Tryd.ntmps13
  go_wp2_with (first | (go_at_call 21; (with_reducible refine c1.mono ?_); rintro e w1 ⟨rfl, d1⟩; have D1 := Aside0.mk d1; clear d1))
  go_ret
  exact ⟨rfl, D1.out⟩
end Go.Proofs.YtkecmlpihnjjgaaDoor.Giv
