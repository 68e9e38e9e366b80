/- The statement FnPyPILocalOrder: its tied card, out of the printed walk and the law of what is computed. -/
import Derived.Test.YtchbfjjeodnocaaDoorQOx4
import Derived.Test.YtchbfjjeodnocaaDoorPureFnPyPILocalOrder
import Derived.Test.YtchbfjjeodnocaaDoorRowx
import Derived.Test.YtchbfjjeodnocaaDoorTie
import Derived.Test.YtchbfjjeodnocaaDoorCards
import Derived.WalkKit
import Derived.ProofKit
import Derived.OpenShut
import Derived.ShutString
import Derived.ChangeOld
import Derived.Below
import Derived.SizedLaws
import Derived.LaidMore
import Derived.Lay
import Derived.SevenTiedAt
import Derived.Stop.Joined
namespace Go.Proofs.YtchbfjjeodnocaaDoor.fnPyPILocalOrder
open Go.ChangeShapes Go.WideShapes Go.ChangeAt Go.RowKit
open Go.ChangeMaps (open_string shut_string)
set_option linter.unusedVariables false
theorem own : ownKnob Tryd.prog.godebug = none := by kernel_rfl
set_option maxRecDepth 100000 in
theorem lifted (os : Os) (started : os.Started) (H : Type) (enc : TypeId × Value → H) :
    ReturnsInHanded {} Tryd.checked os 7 .any (fun w args => (Rows.fnPyPILocalOrderSpec.pre enc Tryd.prog Tryd.f7 Rows.fnPyPILocalOrderRow.domain false w args ∧ laidMetH Tryd.prog Rows.fnPyPILocalOrderRow.laid w) ∧ sizedMet enc Tryd.prog Tryd.f7 (OpenSpec.ofChange Rows.fnPyPILocalOrderSpec) false w args)
      (Rows.fnPyPILocalOrderSpec.post enc Tryd.prog Tryd.f7 false true false false) := by
  refine returnsInHanded_of_change_and (C := Tryd.checked) (X := fun w _ => laidMetH Tryd.prog Rows.fnPyPILocalOrderRow.laid w) (fun _ _ _ hh h => h.of_heap hh) own started (by kernel_rfl) Tryd.func7
    (ChangeSpec.witness_shaped (enc := enc) (C := Tryd.checked) (os := os) (X := fun w _ => laidMetH Tryd.prog Rows.fnPyPILocalOrderRow.laid w) false (World.laidAll Tryd.prog os Rows.fnPyPILocalOrderRow.laid) #[.slice none 0 0, .slice none 0 0, .slice none 0 0] 8 (World.laidAll_os _ _ _)
      (World.shaped_of_ZipB (by kernel_rfl) (by kernel_rfl)) (by kernel_rfl) (by kernel_rfl) (by kernel_rfl)
      (by rw [MakeChecks.laidMetH_plain _ _ _ (by kernel_rfl)]; exact laidMet_laidAll _ (by kernel_rfl) (by kernel_rfl))) ?_
  intro W base args ds gs before hval0 hW hcnd hsz0 hL _
  have hsz : (DataW.weightsEach Tryd.prog (Tryd.f7.params.toList ++ Rows.fnPyPILocalOrderSpec.plain.varTypes Tryd.prog) (ds ++ gs)).all (· ≤ reachBytes) = true := hsz0
  have hval : ∀ (j : Nat) t v, Tryd.f7.params[j]? = some t → args[j]? = some v → Value.okWide Tryd.prog W .any base t v := hval0
  have hW' := hW
  obtain ⟨p, q, hA0, hV, rfl, hfz, hnd⟩ := hW
  have hA : DataW.TrodAll enc Tryd.prog W 0 (fun _ => true) true Tryd.f7.params.toList args.toList ds p := hA0
  rw [Tryd.params7] at hA hval hsz
  obtain ⟨v0, vs0, d0, ds0, p0, q0, hargs, rfl, rfl, h0, r0⟩ := trodAll_cons hA
  obtain ⟨v1, vs1, d1, ds1, p1, q1, rfl, rfl, rfl, h1, r1⟩ := trodAll_cons r0
  obtain ⟨v2, vs2, d2, ds2, p2, q2, rfl, rfl, rfl, h2, r2⟩ := trodAll_cons r1
  obtain ⟨rfl, rfl, rfl⟩ := trodAll_nil r2
  obtain rfl : args = #[v0, v1, v2] := by cases args; simp_all
  obtain ⟨rfl, rfl⟩ := trodVars_none hV
  have k0 := h0
  obtain ⟨A0, c0, l0, rfl, hc0, hm0, hr0, hw0, lt0⟩ := Rowx.arg_strings Tryd.underlying39 Tryd.underlying9 (by kernel_rfl) (hval 0 39 v0 rfl rfl) h0
  have k1 := h1
  obtain ⟨A1, c1, l1, rfl, hc1, hm1, hr1, hw1, lt1⟩ := Rowx.arg_strings Tryd.underlying39 Tryd.underlying9 (by kernel_rfl) (hval 1 39 v1 rfl rfl) h1
  have k2 := h2
  obtain ⟨A2, c2, l2, rfl, hc2, hm2, hr2, hw2, lt2⟩ := Rowx.arg_strings Tryd.underlying39 Tryd.underlying9 (by kernel_rfl) (hval 2 39 v2 rfl rfl) h2
  have hLa : Giv.Laid W := Rowx.laid_of hL (by kernel_rfl) rfl rfl rfl
  clear hA0 hval0 hsz0 hsz
  obtain ⟨k, h⟩ := Pure.FnPyPILocalOrder l0 l1 l2 hm0 hw0 hm1 hw1 hm2 hw2
  refine (QO.laws_FnPyPILocalOrder.calls k A0 c0 l0 A1 c1 l1 A2 c2 l2 true W hr0 hc0 hr1 hc1 hr2 hc2 h hLa).mono fun e W' ⟨he, bel⟩ => ?_
  subst he
  exact ⟨_, rfl, _, _, _, [], _, [], hW', trodAll_mk1 (shut_bool Tryd.underlying4 _), (trodAll_cons_mk (Below.trod Rowx.laidOut (by kernel_rfl) (of_decide_eq_true (by kernel_rfl)) k0 bel lt0) (trodAll_cons_mk (Below.trod Rowx.laidOut (by kernel_rfl) (of_decide_eq_true (by kernel_rfl)) k1 bel lt1) (trodAll_cons_mk (Below.trod Rowx.laidOut (by kernel_rfl) (of_decide_eq_true (by kernel_rfl)) k2 bel lt2) trodAll_mk0))), rfl, bel.frame _, fun h => by cases h⟩
theorem over : Rows.fnPyPILocalOrderRow.holds Tryd.pinned (OpenSpec.ofChange Rows.fnPyPILocalOrderSpec) :=
  OpenClaim.holds_of_wide 7 Tryd.f7 rfl rfl rfl rfl rfl rfl rfl ⟨rfl, rfl, rfl, rfl, rfl⟩ rfl rfl rfl rfl rfl (by kernel_rfl) Tryd.func7 (by kernel_rfl)
    (of_decide_eq_true (by kernel_rfl)) (by unfold Func.isWrapper; first | (rw [if_pos (by decide +kernel)]; kernel_rfl) | (rw [if_neg (by decide +kernel)]; exact ⟨rfl, rfl⟩))
    (fun os started H enc _ => lifted os started H enc)
/-- The tied card. -/
theorem card_holds : Rows.FnPyPILocalOrderCardSaid :=
  Claim7.holds_tied_plain_at .later [] [.sentinel, .sentinel, .sentinel, .sentinel] true (true, "3698927a9c9adfef7ad2e45ef17ea59e794d8157411c00ba2dfd2826c57988b9") true
    over (fun _ h => by cases h) (by kernel_rfl) (fun _ h => by cases h) fnPyPILocalOrder_row_tie rfl ⟨rfl, rfl⟩ (by kernel_rfl) rfl
    (fun f fn hf hfn => by
      obtain rfl : f = 7 := Option.some.inj ((show Tryd.prog.funcNamed "pub-seniority/laws.FnPyPILocalOrder" = some 7 by kernel_rfl).symm.trans hf) |>.symm
      obtain rfl : fn = Tryd.f7 := (Option.some.inj (Tryd.func7.symm.trans hfn)).symm
      exact ⟨by kernel_rfl, fun j t ht => by
        have hm : t ∈ Tryd.f7.params.toList := Array.mem_toList_iff.2 (Array.mem_of_getElem? ht)
        have hall : (Tryd.f7.params.toList.all fun u => !Tryd.prog.wantsStandIn u) = true := by kernel_rfl
        exact (show Tryd.prog.wantsStandIn t = false by simpa using List.all_eq_true.1 hall t hm)⟩)
    (by kernel_rfl)
#print axioms card_holds
end Go.Proofs.YtchbfjjeodnocaaDoor.fnPyPILocalOrder
namespace Go.Proofs.YtchbfjjeodnocaaDoor
/-- The card, under a short name, for the claim. -/
theorem fnPyPILocalOrder_holds : Rows.FnPyPILocalOrderCardSaid := fnPyPILocalOrder.card_holds
end Go.Proofs.YtchbfjjeodnocaaDoor
