/- The statement FnMavenSame: its tied card, out of the walk and the law of what is computed. -/
import Derived.Test.YtkecmlpihnjjgaaDoorLRowt
import Derived.Test.YtkecmlpihnjjgaaDoorPureFnMavenSame
import Derived.Test.YtkecmlpihnjjgaaDoorRowx
import Derived.Test.YtkecmlpihnjjgaaDoorTie
import Derived.Test.YtkecmlpihnjjgaaDoorCards
import Derived.WalkKit
import Derived.ProofKit
import Derived.OpenShut
import Derived.ShutString
import Derived.ChangeOld
import Derived.Below
import Derived.SizedLaws
import Derived.LaidMore
import Derived.Lay
import Derived.SevenTiedAt
import Derived.Stop.Joined
namespace Go.Proofs.YtkecmlpihnjjgaaDoor.fnMavenSame
open Go.ChangeShapes Go.WideShapes Go.ChangeAt Go.RowKit
open Go.ChangeMaps (open_string shut_string)
set_option linter.unusedVariables false
theorem own : ownKnob Tryd.prog.godebug = none := by kernel_rfl
set_option maxRecDepth 100000 in
theorem lifted (os : Os) (started : os.Started) (H : Type) (enc : TypeId × Value → H) :
    ReturnsInHanded {} Tryd.checked os 3 .any (fun w args => (Rows.fnMavenSameSpec.pre enc Tryd.prog Tryd.f3 Rows.fnMavenSameRow.domain false w args ∧ laidMetH Tryd.prog Rows.fnMavenSameRow.laid w) ∧ sizedMet enc Tryd.prog Tryd.f3 (OpenSpec.ofChange Rows.fnMavenSameSpec) false w args)
      (Rows.fnMavenSameSpec.post enc Tryd.prog Tryd.f3 false true false false) := by
  refine returnsInHanded_of_change_and (C := Tryd.checked) (X := fun w _ => laidMetH Tryd.prog Rows.fnMavenSameRow.laid w) (fun _ _ _ hh h => h.of_heap hh) own started (by kernel_rfl) Tryd.func3
    (ChangeSpec.witness_shaped (enc := enc) (C := Tryd.checked) (os := os) (X := fun w _ => laidMetH Tryd.prog Rows.fnMavenSameRow.laid w) false (World.laidAll Tryd.prog os Rows.fnMavenSameRow.laid) #[.slice none 0 0] 8 (World.laidAll_os _ _ _)
      (World.shaped_of_ZipB (by kernel_rfl) (by kernel_rfl)) (by kernel_rfl) (by kernel_rfl) (by kernel_rfl)
      (by rw [MakeChecks.laidMetH_plain _ _ _ (by kernel_rfl)]; exact laidMet_laidAll _ (by kernel_rfl) (by kernel_rfl))) ?_
  intro W base args ds gs before hval0 hW hcnd hsz0 hL _
  have hsz : (DataW.weightsEach Tryd.prog (Tryd.f3.params.toList ++ Rows.fnMavenSameSpec.plain.varTypes Tryd.prog) (ds ++ gs)).all (· ≤ reachBytes) = true := hsz0
  have hval : ∀ (j : Nat) t v, Tryd.f3.params[j]? = some t → args[j]? = some v → Value.okWide Tryd.prog W .any base t v := hval0
  have hW' := hW
  obtain ⟨p, q, hA0, hV, rfl, hfz, hnd⟩ := hW
  have hA : DataW.TrodAll enc Tryd.prog W 0 (fun _ => true) true Tryd.f3.params.toList args.toList ds p := hA0
  rw [Tryd.params3] at hA hval hsz
  obtain ⟨v0, vs0, d0, ds0, p0, q0, hargs, rfl, rfl, h0, r0⟩ := trodAll_cons hA
  obtain ⟨rfl, rfl, rfl⟩ := trodAll_nil r0
  obtain rfl : args = #[v0] := by cases args; simp_all
  obtain ⟨rfl, rfl⟩ := trodVars_none hV
  have k0 := h0
  obtain ⟨A0, c0, l0, rfl, hc0, hr0, lt0⟩ := Rowx.arg_tokens (hval 0 22 v0 rfl rfl) h0
  clear hA0 hval0 hsz0 hsz
  refine (Giv.same_calls A0 c0 l0 W hr0 hc0 (Pure.FnMavenSame l0)).mono fun e W' ⟨he, bel⟩ => ?_
  subst he
  exact ⟨_, rfl, _, _, _, [], _, [], hW', trodAll_mk1 (shut_bool Tryd.underlying4 _), (trodAll_cons_mk (Below.trod Rowx.laidOut (by kernel_rfl) (of_decide_eq_true (by kernel_rfl)) k0 bel lt0) trodAll_mk0), rfl, bel.frame _, fun h => by cases h⟩
theorem over : Rows.fnMavenSameRow.holds Tryd.pinned (OpenSpec.ofChange Rows.fnMavenSameSpec) :=
  OpenClaim.holds_of_wide 3 Tryd.f3 rfl rfl rfl rfl rfl rfl rfl ⟨rfl, rfl, rfl, rfl, rfl⟩ rfl rfl rfl rfl rfl (by kernel_rfl) Tryd.func3 (by kernel_rfl)
    (of_decide_eq_true (by kernel_rfl)) (by unfold Func.isWrapper; first | (rw [if_pos (by decide +kernel)]; kernel_rfl) | (rw [if_neg (by decide +kernel)]; exact ⟨rfl, rfl⟩))
    (fun os started H enc _ => lifted os started H enc)
/-- The tied card. -/
theorem card_holds : Rows.FnMavenSameCardSaid :=
  Claim7.holds_tied_plain_at .later [] [.sentinel, .sentinel, .sentinel, .sentinel, .data] true (true, "000bb5ebdaef3d50b636a1c02ab9fe464dce488f54c6e83f0e4bb41e67ded3d4") true
    over (fun _ h => by cases h) (by kernel_rfl) (fun _ h => by cases h) fnMavenSame_row_tie rfl ⟨rfl, rfl⟩ (by kernel_rfl) rfl
    (fun f fn hf hfn => by
      obtain rfl : f = 3 := Option.some.inj ((show Tryd.prog.funcNamed "pub-seniority/laws.FnMavenSame" = some 3 by kernel_rfl).symm.trans hf) |>.symm
      obtain rfl : fn = Tryd.f3 := (Option.some.inj (Tryd.func3.symm.trans hfn)).symm
      exact ⟨by kernel_rfl, fun j t ht => by
        have hm : t ∈ Tryd.f3.params.toList := Array.mem_toList_iff.2 (Array.mem_of_getElem? ht)
        have hall : (Tryd.f3.params.toList.all fun u => !Tryd.prog.wantsStandIn u) = true := by kernel_rfl
        exact (show Tryd.prog.wantsStandIn t = false by simpa using List.all_eq_true.1 hall t hm)⟩)
    (by kernel_rfl)
#print axioms card_holds
end Go.Proofs.YtkecmlpihnjjgaaDoor.fnMavenSame
namespace Go.Proofs.YtkecmlpihnjjgaaDoor
/-- The card, under a short name, for the claim. -/
theorem fnMavenSame_holds : Rows.FnMavenSameCardSaid := fnMavenSame.card_holds
end Go.Proofs.YtkecmlpihnjjgaaDoor
