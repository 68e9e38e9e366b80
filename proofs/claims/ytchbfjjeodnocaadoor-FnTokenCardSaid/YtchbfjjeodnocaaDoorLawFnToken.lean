/- The statement FnToken: its tied card, out of the printed walk and the law of what is computed. -/
import Derived.Test.YtchbfjjeodnocaaDoorQTx3
import Derived.Test.YtchbfjjeodnocaaDoorPureFnToken
import Derived.Test.YtchbfjjeodnocaaDoorRowx
import Derived.Test.YtchbfjjeodnocaaDoorTie
import Derived.Test.YtchbfjjeodnocaaDoorCards
import Derived.WalkKit
import Derived.ProofKit
import Derived.Lib.SmallJoins
import Derived.ChangeArms
import Derived.OpenShut
import Derived.ShutString
import Derived.ChangeOld
import Derived.Below
import Derived.SizedLaws
import Derived.LaidMore
import Derived.Lay
import Derived.SevenTiedAt
import Derived.Stop.Joined
namespace Go.Proofs.YtchbfjjeodnocaaDoor.fnToken
open Go.ChangeShapes Go.WideShapes Go.ChangeAt Go.RowKit Go.Joins
open Go.ChangeMaps (open_string shut_string)
set_option linter.unusedVariables false
theorem own : ownKnob Tryd.prog.godebug = none := by kernel_rfl
set_option maxRecDepth 100000 in
theorem lifted (os : Os) (started : os.Started) (H : Type) (enc : TypeId × Value → H) :
    ReturnsInHanded {} Tryd.checked os 3 .any (fun w args => (Rows.fnTokenSpec.pre enc Tryd.prog Tryd.f3 Rows.fnTokenRow.domain false w args ∧ laidMetH Tryd.prog Rows.fnTokenRow.laid w) ∧ sizedMet enc Tryd.prog Tryd.f3 (OpenSpec.ofChange Rows.fnTokenSpec) false w args)
      (Rows.fnTokenSpec.post enc Tryd.prog Tryd.f3 false true false false) := by
  refine returnsInHanded_of_change_and (C := Tryd.checked) (X := fun w _ => laidMetH Tryd.prog Rows.fnTokenRow.laid w) (fun _ _ _ hh h => h.of_heap hh) own started (by kernel_rfl) Tryd.func3
    (ChangeSpec.witness_shaped (enc := enc) (C := Tryd.checked) (os := os) (X := fun w _ => laidMetH Tryd.prog Rows.fnTokenRow.laid w) false (World.laidAll Tryd.prog os Rows.fnTokenRow.laid) #[.agg #[.string ByteArray.empty, .string ByteArray.empty, .bool false]] 8 (World.laidAll_os _ _ _)
      (World.shaped_of_ZipB (by kernel_rfl) (by kernel_rfl)) (by kernel_rfl) (by kernel_rfl) (by kernel_rfl)
      (by rw [MakeChecks.laidMetH_plain _ _ _ (by kernel_rfl)]; exact laidMet_laidAll _ (by kernel_rfl) (by kernel_rfl))) ?_
  intro W base args ds gs before hval0 hW hcnd hsz0 hL _
  have hsz : (DataW.weightsEach Tryd.prog (Tryd.f3.params.toList ++ Rows.fnTokenSpec.plain.varTypes Tryd.prog) (ds ++ gs)).all (· ≤ reachBytes) = true := hsz0
  have hval : ∀ (j : Nat) t v, Tryd.f3.params[j]? = some t → args[j]? = some v → Value.okWide Tryd.prog W .any base t v := hval0
  have hW' := hW
  obtain ⟨p, q, hA0, hV, rfl, hfz, hnd⟩ := hW
  have hA : DataW.TrodAll enc Tryd.prog W 0 (fun _ => true) true Tryd.f3.params.toList args.toList ds p := hA0
  rw [Tryd.params3] at hA hval hsz
  obtain ⟨v0, vs0, d0, ds0, p0, q0, hargs, rfl, rfl, h0, r0⟩ := trodAll_cons hA
  obtain ⟨rfl, rfl, rfl⟩ := trodAll_nil r0
  obtain rfl : args = #[v0] := by cases args; simp_all
  obtain ⟨rfl, rfl⟩ := trodVars_none hV
  obtain ⟨x0, x1, x2, y0, y1, y2, m, rfl, rfl, rfl, z0, z1, z2⟩ := open_agg3 Tryd.underlying23 (by kernel_rfl) (by kernel_rfl) (hval 0 23 v0 rfl rfl) h0
  obtain ⟨a0, e0, rfl, w0⟩ := DataW.trod_string Tryd.underlying9 z0
  obtain ⟨a1, e1, rfl, w1⟩ := DataW.trod_string Tryd.underlying9 z1
  obtain ⟨a2, e2, rfl⟩ := DataW.trod_bool Tryd.underlying4 z2
  simp at e0 e1 e2
  subst e0 e1 e2
  have back : ∀ (W' : World) (sp : Nat → Bool), DataW.Trod enc Tryd.prog W' 0 sp true 23 (.agg #[.string a0, .string a1, .bool a2]) (.agg [.lit (.string a0.data.toList), .lit (.string a1.data.toList), .lit (.bool a2)]) [] := fun W' sp =>
    shut_agg3 (y0 := (.lit (.string a0.data.toList), [])) (y1 := (.lit (.string a1.data.toList), [])) (y2 := (.lit (.bool a2), [])) Tryd.underlying23 (by kernel_rfl) (by kernel_rfl) ⟨1, by simp [DataW.trod, Tryd.underlying9, w0]⟩ ⟨1, by simp [DataW.trod, Tryd.underlying9, w1]⟩ ⟨1, by simp [DataW.trod, Tryd.underlying4]⟩
  have hLa : Giv.Laid W := Rowx.laid_of hL (by kernel_rfl) rfl rfl rfl
  clear hA0 hval0 hsz0 hsz
  obtain ⟨k, h⟩ := Pure.FnToken a0 a1 a2
  refine (QT.laws_FnToken.calls k a0 a1 a2 true W  h hLa).mono fun e W' ⟨he, bel⟩ => ?_
  subst he
  exact ⟨_, rfl, _, _, _, [], _, [], hW', trodAll_mk1 (shut_bool Tryd.underlying4 _), trodAll_cons_mk (back _ _) trodAll_mk0, rfl, bel.frame _, fun h => by cases h⟩
theorem over : Rows.fnTokenRow.holds Tryd.pinned (OpenSpec.ofChange Rows.fnTokenSpec) :=
  OpenClaim.holds_of_wide 3 Tryd.f3 rfl rfl rfl rfl rfl rfl rfl ⟨rfl, rfl, rfl, rfl, rfl⟩ rfl rfl rfl rfl rfl (by kernel_rfl) Tryd.func3 (by kernel_rfl)
    (of_decide_eq_true (by kernel_rfl)) (by unfold Func.isWrapper; first | (rw [if_pos (by decide +kernel)]; kernel_rfl) | (rw [if_neg (by decide +kernel)]; exact ⟨rfl, rfl⟩))
    (fun os started H enc _ => lifted os started H enc)
/-- The tied card. -/
theorem card_holds : Rows.FnTokenCardSaid :=
  Claim7.holds_tied_plain_at .later [] [.sentinel, .sentinel, .sentinel, .sentinel] true (true, "3698927a9c9adfef7ad2e45ef17ea59e794d8157411c00ba2dfd2826c57988b9") true
    over (fun _ h => by cases h) (by kernel_rfl) (fun _ h => by cases h) fnToken_row_tie rfl ⟨rfl, rfl⟩ (by kernel_rfl) rfl
    (fun f fn hf hfn => by
      obtain rfl : f = 3 := Option.some.inj ((show Tryd.prog.funcNamed "pub-seniority/laws.FnToken" = some 3 by kernel_rfl).symm.trans hf) |>.symm
      obtain rfl : fn = Tryd.f3 := (Option.some.inj (Tryd.func3.symm.trans hfn)).symm
      exact ⟨by kernel_rfl, fun j t ht => by
        have hm : t ∈ Tryd.f3.params.toList := Array.mem_toList_iff.2 (Array.mem_of_getElem? ht)
        have hall : (Tryd.f3.params.toList.all fun u => !Tryd.prog.wantsStandIn u) = true := by kernel_rfl
        exact (show Tryd.prog.wantsStandIn t = false by simpa using List.all_eq_true.1 hall t hm)⟩)
    (by kernel_rfl)
#print axioms card_holds
end Go.Proofs.YtchbfjjeodnocaaDoor.fnToken
namespace Go.Proofs.YtchbfjjeodnocaaDoor
/-- The card, under a short name, for the claim. -/
theorem fnToken_holds : Rows.FnTokenCardSaid := fnToken.card_holds
end Go.Proofs.YtchbfjjeodnocaaDoor
