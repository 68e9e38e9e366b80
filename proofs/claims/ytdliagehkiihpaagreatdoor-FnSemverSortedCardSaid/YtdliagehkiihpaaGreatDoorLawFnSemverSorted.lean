/- The statement FnSemverSorted: its tied card, out of the printed walk and the law of what is computed. -/
import Derived.Test.YtdliagehkiihpaaGreatDoorWQss
import Derived.Test.YtdliagehkiihpaaGreatDoorPureFnSemverSorted
import Derived.Test.YtdliagehkiihpaaGreatDoorRowu
import Derived.Test.YtdliagehkiihpaaGreatDoorTie
import Derived.Test.YtdliagehkiihpaaGreatDoorCards
import Derived.WalkKit
import Derived.ProofKit
import Derived.OpenShut
import Derived.ShutString
import Derived.ChangeOld
import Derived.Below
import Derived.SizedLaws
import Derived.LaidMore
import Derived.Lay
import Derived.SevenTiedAt
import Derived.Stop.Joined
namespace Go.Proofs.YtdliagehkiihpaaGreatDoor.fnSemverSorted
open Go.ChangeShapes Go.WideShapes Go.ChangeAt Go.RowKit
open Go.ChangeMaps (open_string shut_string)
set_option linter.unusedVariables false
theorem own : ownKnob Tryz.prog.godebug = none := by kernel_rfl
set_option maxRecDepth 100000 in
theorem lifted (os : Os) (started : os.Started) (H : Type) (enc : TypeId × Value → H) :
    ReturnsInHanded {} Tryz.checked os 5 .any (fun w args => (Rows.fnSemverSortedSpec.pre enc Tryz.prog Tryz.f5 Rows.fnSemverSortedRow.domain false w args ∧ laidMetH Tryz.prog Rows.fnSemverSortedRow.laid w) ∧ sizedMet enc Tryz.prog Tryz.f5 (OpenSpec.ofChange Rows.fnSemverSortedSpec) false w args)
      (Rows.fnSemverSortedSpec.post enc Tryz.prog Tryz.f5 false true false false) := by
  refine returnsInHanded_of_change_and (C := Tryz.checked) (X := fun w _ => laidMetH Tryz.prog Rows.fnSemverSortedRow.laid w) (fun _ _ _ hh h => h.of_heap hh) own started (by kernel_rfl) Tryz.func5
    (ChangeSpec.witness_shaped (enc := enc) (C := Tryz.checked) (os := os) (X := fun w _ => laidMetH Tryz.prog Rows.fnSemverSortedRow.laid w) false (World.laidAll Tryz.prog os Rows.fnSemverSortedRow.laid) #[.slice none 0 0] 8 (World.laidAll_os _ _ _)
      (World.shaped_of_ZipB (by kernel_rfl) (by kernel_rfl)) (by kernel_rfl) (by kernel_rfl) (by kernel_rfl)
      (by rw [MakeChecks.laidMetH_plain _ _ _ (by kernel_rfl)]; exact laidMet_laidAll _ (by kernel_rfl) (by kernel_rfl))) ?_
  intro W base args ds gs before hval0 hW hcnd hsz0 hL _
  have hsz : (DataW.weightsEach Tryz.prog (Tryz.f5.params.toList ++ Rows.fnSemverSortedSpec.plain.varTypes Tryz.prog) (ds ++ gs)).all (· ≤ reachBytes) = true := hsz0
  have hval : ∀ (j : Nat) t v, Tryz.f5.params[j]? = some t → args[j]? = some v → Value.okWide Tryz.prog W .any base t v := hval0
  have hW' := hW
  obtain ⟨p, q, hA0, hV, rfl, hfz, hnd⟩ := hW
  have hA : DataW.TrodAll enc Tryz.prog W 0 (fun _ => true) true Tryz.f5.params.toList args.toList ds p := hA0
  rw [Tryz.params5] at hA hval hsz
  obtain ⟨v0, vs0, d0, ds0, p0, q0, hargs, rfl, rfl, h0, r0⟩ := trodAll_cons hA
  obtain ⟨rfl, rfl, rfl⟩ := trodAll_nil r0
  obtain rfl : args = #[v0] := by cases args; simp_all
  obtain ⟨rfl, rfl⟩ := trodVars_none hV
  have k0 := h0
  obtain ⟨A0, c0, l0, rfl, hc0, hm0, hr0, hw0, lt0⟩ := Rowx.arg_strings Tryz.underlying25 Tryz.underlying9 (by kernel_rfl) (hval 0 25 v0 rfl rfl) h0
  have hLa : Giv.LaidU W := Rowx.laidU_of hL (by kernel_rfl) rfl rfl rfl rfl rfl
  clear hA0 hval0 hsz0 hsz
  obtain ⟨k, h⟩ := Pure.FnSemverSorted l0 hm0 hw0
  refine (QW.laws_FnSemverSorted.calls k A0 c0 l0 true W hr0 hc0 h hLa).mono fun e W' ⟨he, bel⟩ => ?_
  subst he
  exact ⟨_, rfl, _, _, _, [], _, [], hW', trodAll_mk1 (shut_bool Tryz.underlying4 _), (trodAll_cons_mk (Below.trod Rowx.laidOut (by kernel_rfl) (of_decide_eq_true (by kernel_rfl)) k0 bel lt0) trodAll_mk0), rfl, bel.frame _, fun h => by cases h⟩
theorem over : Rows.fnSemverSortedRow.holds Tryz.pinned (OpenSpec.ofChange Rows.fnSemverSortedSpec) :=
  OpenClaim.holds_of_wide 5 Tryz.f5 rfl rfl rfl rfl rfl rfl rfl ⟨rfl, rfl, rfl, rfl, rfl⟩ rfl rfl rfl rfl rfl (by kernel_rfl) Tryz.func5 (by kernel_rfl)
    (of_decide_eq_true (by kernel_rfl)) (by unfold Func.isWrapper; first | (rw [if_pos (by decide +kernel)]; kernel_rfl) | (rw [if_neg (by decide +kernel)]; exact ⟨rfl, rfl⟩))
    (fun os started H enc _ => lifted os started H enc)
/-- The tied card. -/
theorem card_holds : Rows.FnSemverSortedCardSaid :=
  Claim7.holds_tied_plain_at .later [] [.data, .data, .data, .sentinel, .sentinel, .sentinel, .data, .data, .data, .data, .data, .sentinel, .pinned] true (true, "e5b0bbcb236fcbafb581d38a545022d7731c99eb7075584c2602262349f9f536") true
    over (fun _ h => by cases h) (by kernel_rfl) (fun _ h => by cases h) fnSemverSorted_row_tie rfl ⟨rfl, rfl⟩ (by kernel_rfl) rfl
    (fun f fn hf hfn => by
      obtain rfl : f = 5 := Option.some.inj ((show Tryz.prog.funcNamed "pub-seniority/laws.FnSemverSorted" = some 5 by kernel_rfl).symm.trans hf) |>.symm
      obtain rfl : fn = Tryz.f5 := (Option.some.inj (Tryz.func5.symm.trans hfn)).symm
      exact ⟨by kernel_rfl, fun j t ht => by
        have hm : t ∈ Tryz.f5.params.toList := Array.mem_toList_iff.2 (Array.mem_of_getElem? ht)
        have hall : (Tryz.f5.params.toList.all fun u => !Tryz.prog.wantsStandIn u) = true := by kernel_rfl
        exact (show Tryz.prog.wantsStandIn t = false by simpa using List.all_eq_true.1 hall t hm)⟩)
    (by kernel_rfl)
#print axioms card_holds
end Go.Proofs.YtdliagehkiihpaaGreatDoor.fnSemverSorted
namespace Go.Proofs.YtdliagehkiihpaaGreatDoor
/-- The card, under a short name, for the claim. -/
theorem fnSemverSorted_holds : Rows.FnSemverSortedCardSaid := fnSemverSorted.card_holds
end Go.Proofs.YtdliagehkiihpaaGreatDoor
