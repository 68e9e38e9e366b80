/- The law FnDebianSorted's contract in the print's form (the walk by hand: GivSo). -/
import Derived.Test.YtffcbcihnoaikaaDoorQOx
import Derived.Test.YtffcbcihnoaikaaDoorGivSo
import Derived.Test.YtffcbcihnoaikaaDoorZV
import Derived.Test.YtffcbcihnoaikaaDoorZOT
namespace Go.Proofs.YtffcbcihnoaikaaDoor.QO
open Go.RowKit Go.Proofs.YtffcbcihnoaikaaDoorW.PrintWords Go.Proofs.YtffcbcihnoaikaaDoorW.PrintLast Go.Proofs.YtffcbcihnoaikaaDoor.Pk Go.Proofs.YtffcbcihnoaikaaDoor.Giv Go.Proofs.YtffcbcihnoaikaaDoor.Ord
set_option linter.unusedVariables false
set_option linter.unusedSimpArgs false
/-- A version that is one. -/
def par (s : ByteArray) : Int × List UInt8 × List UInt8 := (dvL s.toList).getD (0, [], [])
def laws_FnDebianSorted.f (k : Nat) (l0 : List ByteArray) : Option (Bool) := some true
theorem laws_FnDebianSorted.calls (k : Nat) (A0 : Option Addr) (c0 : Nat) (l0 : List ByteArray) (r : Bool) (w : World) (hr0 : Kd.C Kd.string w A0 l0.length l0) (hc0 : l0.length ≤ c0) (h : laws_FnDebianSorted.f k l0 = some r) (hL : Giv.LaidD w) :
    Calls Tryd.prog 5 #[.slice A0 l0.length c0] w fun e w' => e = .returned (.bool r) ∧ Below w.heap.size w w' := by
  obtain rfl : true = r := Option.some.inj h
  clear h
  obtain ⟨fits, hf, hf2⟩ := fits_ev l0
  obtain ⟨k1, h1⟩ := hf.rounds
  have sml : fits = true → Ev (fun k => laws_short.f k l0) (shortB l0) := fun e => short_ev l0 (by have := hf2 e; omega)
  have good : fits = true → shortB l0 = true → ∀ s ∈ l0, s.toList.length ≤ 40000 := fun _ e s hs => by
    have := short_sizes e s hs
    rw [len_toList]
    omega
  have two : (∀ s ∈ l0, (dvL s.toList).isSome = true ∧ knownB s.toList = true) → ∀ s ∈ l0, dvL s.toList = some (par s) := fun hg s hs => by
    have := (hg s hs).1
    unfold par
    cases hd : dvL s.toList with
    | none => rw [hd] at this; exact absurd this (by simp)
    | some p => rfl
  refine sorted_calls l0 A0 c0 w hr0 hc0 fits (shortB l0) (fun s => (dvL s.toList).isSome) (fun s => knownB s.toList) (fun x y => Deb.dvC (par x) (par y)) (Deb.dvC_cmp.key par) ?_ ?_ ?_ ?_ ?_ ?_
  · intro w' hb
    refine (laws_zzFits1.calls k1 A0 c0 l0 fits w' (Kd.C_below hr0 hb) hc0 h1).mono ?_
    rintro e w2 ⟨rfl, d⟩
    exact ⟨rfl, d.below⟩
  · intro ef w' hb
    obtain ⟨k2, h2⟩ := (sml ef).rounds
    refine (laws_short.calls k2 A0 c0 l0 _ w' (Kd.C_below hr0 hb) hc0 h2).mono ?_
    rintro e w2 ⟨rfl, d⟩
    exact ⟨rfl, d.below⟩
  · intro ef es s hs w'
    have hl := good ef es s hs
    have e := specParse_ev s.toList hl
    rw [← bs_of] at e
    obtain ⟨k2, h2⟩ := e.rounds
    cases hd : dvL s.toList with
    | none =>
      rw [hd] at h2
      refine (spec_DebianParse.calls k2 s _ _ _ _ _ w' h2).mono ?_
      rintro e w2 ⟨rfl, d⟩
      exact ⟨_, _, _, _, rfl, d⟩
    | some p =>
      rw [hd] at h2
      refine (spec_DebianParse.calls k2 s _ _ _ _ _ w' h2).mono ?_
      rintro e w2 ⟨rfl, d⟩
      exact ⟨_, _, _, _, rfl, d⟩
  · intro ef es s hs w'
    have hl := good ef es s hs
    have e := known_ev s.toList (by omega)
    rw [← bs_of] at e
    obtain ⟨k2, h2⟩ := e.rounds
    refine (spec_DebianKnown.calls k2 s _ w' h2).mono ?_
    rintro e w2 ⟨rfl, d⟩
    exact ⟨rfl, d.below⟩
  · intro ef es hg x hx y hy w' hb
    have hlx := good ef es x hx
    have hly := good ef es y hy
    have ox := knownB_okB (hg x hx).2 hlx
    have oy := knownB_okB (hg y hy).2 hly
    refine impl_DebianCompare.calls x y _ _ w' ?_ (hL.below hb)
    unfold impl_DebianCompare.f
    rw [if_pos ⟨ox, oy⟩, two hg x hx, two hg y hy]
  · intro ef es hg x hx y hy w' hb
    have e := specCompare_ev x.toList y.toList (par x) (par y) (good ef es x hx) (good ef es y hy) (two hg x hx) (two hg y hy)
    rw [← bs_of, ← bs_of] at e
    obtain ⟨k2, h2⟩ := e.rounds
    exact spec_DebianCompare.calls k2 x y _ _ w' h2
def laws_FnDebianSorted.Pure : Prop := ∀ (l0 : List ByteArray), l0.length ≤ 9223372036854775807 → (∀ s ∈ l0, s.size ≤ 9223372036854775807) → ∃ k, laws_FnDebianSorted.f k l0 = some true
end Go.Proofs.YtffcbcihnoaikaaDoor.QO
