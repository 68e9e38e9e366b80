/- The law FnRedHatSorted's contract in the print's form (the walk by hand: GivSr). -/
import Derived.Test.YtehlakaccgccbaaDoorQOx
import Derived.Test.YtehlakaccgccbaaDoorGivSr
import Derived.Test.YtehlakaccgccbaaDoorZOT
namespace Go.Proofs.YtehlakaccgccbaaDoor.QO
open Go.RowKit Go.Proofs.YtehlakaccgccbaaDoorW.PrintWords Go.Proofs.YtehlakaccgccbaaDoorW.PrintLast Go.Proofs.YtehlakaccgccbaaDoor.Pk Go.Proofs.YtehlakaccgccbaaDoor.Giv Go.Proofs.YtehlakaccgccbaaDoor.Ord
set_option linter.unusedVariables false
set_option linter.unusedSimpArgs false
def laws_FnRedHatSorted.f (k : Nat) (l0 : List ByteArray) : Option (Bool) := some true
theorem laws_FnRedHatSorted.calls (k : Nat) (A0 : Option Addr) (c0 : Nat) (l0 : List ByteArray) (r : Bool) (w : World) (hr0 : Kd.C Kd.string w A0 l0.length l0) (hc0 : l0.length ≤ c0) (h : laws_FnRedHatSorted.f k l0 = some r) :
    Calls Tryd.prog 3 #[.slice A0 l0.length c0] w fun e w' => e = .returned (.bool r) ∧ Below w.heap.size w w' := by
  obtain rfl : true = r := Option.some.inj h
  clear h
  obtain ⟨fits, hf, hf2⟩ := fits_ev l0
  obtain ⟨k1, h1⟩ := hf.rounds
  have sml : fits = true → Ev (fun k => laws_short.f k l0) (shortB l0) := fun e => short_ev l0 (by have := hf2 e; omega)
  have good : fits = true → shortB l0 = true → ∀ s ∈ l0, s.toList.length ≤ 40000 := fun _ e s hs => by
    have := short_sizes e s hs
    rw [len_toList]
    omega
  refine sorted_calls l0 A0 c0 w hr0 hc0 fits (shortB l0) (fun s => plainB [46, 95, 43, 45, 126, 94, 58] s.toList) (fun s => true) (fun x y => Red.cmp x.toList y.toList) (Red.cmp_cmp.key ByteArray.toList) ?_ ?_ ?_ ?_ ?_ ?_
  · intro w' hb
    refine (laws_zzFits1.calls k1 A0 c0 l0 fits w' (Kd.C_below hr0 hb) hc0 h1).mono ?_
    rintro e w2 ⟨rfl, d⟩
    exact ⟨rfl, d.below⟩
  · intro ef w' hb
    obtain ⟨k2, h2⟩ := (sml ef).rounds
    refine (laws_short.calls k2 A0 c0 l0 _ w' (Kd.C_below hr0 hb) hc0 h2).mono ?_
    rintro e w2 ⟨rfl, d⟩
    exact ⟨rfl, d.below⟩
  · intro ef es s hs w'
    have hl := good ef es s hs
    have e := plain_ev [46, 95, 43, 45, 126, 94, 58] s.toList (by decide) (by omega)
    rw [← bs_of] at e
    obtain ⟨k2, h2⟩ := e.rounds
    refine (laws_plain.calls k2 s (bs [46, 95, 43, 45, 126, 94, 58]) _ w' h2).mono ?_
    rintro e w2 ⟨rfl, d⟩
    exact ⟨rfl, d.below⟩
  · intro ef es s hs w'
    have h2 : spec_RedHatKnown.f s = some true := by
      unfold spec_RedHatKnown.f
      exact congrArg some (decide_eq_true (by omega))
    refine (spec_RedHatKnown.calls s _ w' h2).mono ?_
    rintro e w2 ⟨rfl, d⟩
    exact ⟨rfl, d.below⟩
  · intro ef es hg x hx y hy w' hb
    have hlx := good ef es x hx
    have hly := good ef es y hy
    have hf : Giv.impl_RedHatCompare.f x y = some (Red.cmp x.toList y.toList, true) := by
      unfold Giv.impl_RedHatCompare.f
      rw [len_toList] at hlx hly
      rw [if_pos (by omega), if_pos (by omega)]
    exact Giv.impl_RedHatCompare.calls x y _ _ w' hf
  · intro ef es hg x hx y hy w' hb
    have e := specCompareRH_ev x.toList y.toList (good ef es x hx) (good ef es y hy)
    rw [← bs_of, ← bs_of] at e
    obtain ⟨k2, h2⟩ := e.rounds
    exact spec_RedHatCompare.calls k2 x y _ _ w' h2
def laws_FnRedHatSorted.Pure : Prop := ∀ (l0 : List ByteArray), l0.length ≤ 9223372036854775807 → (∀ s ∈ l0, s.size ≤ 9223372036854775807) → ∃ k, laws_FnRedHatSorted.f k l0 = some true
end Go.Proofs.YtehlakaccgccbaaDoor.QO
