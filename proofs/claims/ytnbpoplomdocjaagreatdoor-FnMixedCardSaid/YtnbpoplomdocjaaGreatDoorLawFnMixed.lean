/- The statement FnMixed: its tied card, out of the printed walk and the law of what is computed. -/
import Derived.Test.YtnbpoplomdocjaaGreatDoorQXx1
import Derived.Test.YtnbpoplomdocjaaGreatDoorZPX
import Derived.Test.YtnbpoplomdocjaaGreatDoorZRX
import Derived.Test.YtnbpoplomdocjaaGreatDoorTie
import Derived.Test.YtnbpoplomdocjaaGreatDoorCards
import Derived.WalkKit
import Derived.ProofKit
import Derived.OpenShut
import Derived.ShutString
import Derived.ChangeOld
import Derived.Below
import Derived.SizedLaws
import Derived.LaidMore
import Derived.Lay
import Derived.SevenTiedAt
import Derived.Stop.Joined
namespace Go.Proofs.YtnbpoplomdocjaaGreatDoor.fnMixed
open Go.ChangeShapes Go.WideShapes Go.ChangeAt Go.RowKit
open Go.ChangeMaps (open_string shut_string)
set_option linter.unusedVariables false
theorem own : ownKnob Tryz.prog.godebug = none := by kernel_rfl
set_option maxRecDepth 100000 in
theorem lifted (os : Os) (started : os.Started) (H : Type) (enc : TypeId × Value → H) :
    ReturnsInHanded {} Tryz.checked os 3 .any (fun w args => (Rows.fnMixedSpec.pre enc Tryz.prog Tryz.f3 Rows.fnMixedRow.domain false w args ∧ laidMetH Tryz.prog Rows.fnMixedRow.laid w) ∧ sizedMet enc Tryz.prog Tryz.f3 (OpenSpec.ofChange Rows.fnMixedSpec) false w args)
      (Rows.fnMixedSpec.post enc Tryz.prog Tryz.f3 false true false false) := by
  refine returnsInHanded_of_change_and (C := Tryz.checked) (X := fun w _ => laidMetH Tryz.prog Rows.fnMixedRow.laid w) (fun _ _ _ hh h => h.of_heap hh) own started (by kernel_rfl) Tryz.func3
    (ChangeSpec.witness_shaped (enc := enc) (C := Tryz.checked) (os := os) (X := fun w _ => laidMetH Tryz.prog Rows.fnMixedRow.laid w) false (World.laidAll Tryz.prog os Rows.fnMixedRow.laid) #[.int .i64 0, .string ByteArray.empty, .int .i64 0, .string ByteArray.empty] 8 (World.laidAll_os _ _ _)
      (World.shaped_of_ZipB (by kernel_rfl) (by kernel_rfl)) (by kernel_rfl) (by kernel_rfl) (by kernel_rfl)
      (by rw [MakeChecks.laidMetH_plain _ _ _ (by kernel_rfl)]; exact laidMet_laidAll _ (by kernel_rfl) (by kernel_rfl))) ?_
  intro W base args ds gs before hval0 hW hcnd hsz0 hL _
  have hsz : (DataW.weightsEach Tryz.prog (Tryz.f3.params.toList ++ Rows.fnMixedSpec.plain.varTypes Tryz.prog) (ds ++ gs)).all (· ≤ reachBytes) = true := hsz0
  have hval : ∀ (j : Nat) t v, Tryz.f3.params[j]? = some t → args[j]? = some v → Value.okWide Tryz.prog W .any base t v := hval0
  have hW' := hW
  obtain ⟨p, q, hA0, hV, rfl, hfz, hnd⟩ := hW
  have hA : DataW.TrodAll enc Tryz.prog W 0 (fun _ => true) true Tryz.f3.params.toList args.toList ds p := hA0
  rw [Tryz.params3] at hA hval hsz
  obtain ⟨v0, vs0, d0, ds0, p0, q0, hargs, rfl, rfl, h0, r0⟩ := trodAll_cons hA
  obtain ⟨v1, vs1, d1, ds1, p1, q1, rfl, rfl, rfl, h1, r1⟩ := trodAll_cons r0
  obtain ⟨v2, vs2, d2, ds2, p2, q2, rfl, rfl, rfl, h2, r2⟩ := trodAll_cons r1
  obtain ⟨v3, vs3, d3, ds3, p3, q3, rfl, rfl, rfl, h3, r3⟩ := trodAll_cons r2
  obtain ⟨rfl, rfl, rfl⟩ := trodAll_nil r3
  obtain rfl : args = #[v0, v1, v2, v3] := by cases args; simp_all
  obtain ⟨rfl, rfl⟩ := trodVars_none hV
  obtain ⟨a0, rfl, rfl, rfl, w0⟩ := open_int Tryz.underlying3 (hval 0 3 v0 rfl rfl) h0
  obtain ⟨a1, rfl, rfl, rfl, y1⟩ := open_string Tryz.underlying9 (hval 1 9 v1 rfl rfl) h1
  have w1 : a1.size ≤ 140737488351232 := by
    have z := sized_string hsz (j := 1) (t := 9) rfl rfl
    rw [Array.length_toList] at z
    exact z
  obtain ⟨a2, rfl, rfl, rfl, w2⟩ := open_int Tryz.underlying3 (hval 2 3 v2 rfl rfl) h2
  obtain ⟨a3, rfl, rfl, rfl, y3⟩ := open_string Tryz.underlying9 (hval 3 9 v3 rfl rfl) h3
  have w3 : a3.size ≤ 140737488351232 := by
    have z := sized_string hsz (j := 3) (t := 9) rfl rfl
    rw [Array.length_toList] at z
    exact z
  have hLa : Giv.LaidM W := Rowx.laidM_of hL (by kernel_rfl) rfl rfl rfl rfl rfl rfl rfl rfl
  clear hA0 hval0 hsz0 hsz
  obtain ⟨k, h⟩ := Pure.FnMixed a0 a1 a2 a3 w0 w1 w2 w3
  refine (QX.laws_FnMixed.calls k a0 a1 a2 a3 true W  h hLa).mono fun e W' ⟨he, bel⟩ => ?_
  subst he
  exact ⟨_, rfl, _, _, _, [], _, [], hW', trodAll_mk1 (shut_bool Tryz.underlying4 _), (trodAll_cons_mk (shut_int Tryz.underlying3 w0) (trodAll_cons_mk (shut_string Tryz.underlying9 y1) (trodAll_cons_mk (shut_int Tryz.underlying3 w2) (trodAll_cons_mk (shut_string Tryz.underlying9 y3) trodAll_mk0)))), rfl, bel.frame _, fun h => by cases h⟩
theorem over : Rows.fnMixedRow.holds Tryz.pinned (OpenSpec.ofChange Rows.fnMixedSpec) :=
  OpenClaim.holds_of_wide 3 Tryz.f3 rfl rfl rfl rfl rfl rfl rfl ⟨rfl, rfl, rfl, rfl, rfl⟩ rfl rfl rfl rfl rfl (by kernel_rfl) Tryz.func3 (by kernel_rfl)
    (of_decide_eq_true (by kernel_rfl)) (by unfold Func.isWrapper; first | (rw [if_pos (by decide +kernel)]; kernel_rfl) | (rw [if_neg (by decide +kernel)]; exact ⟨rfl, rfl⟩))
    (fun os started H enc _ => lifted os started H enc)
/-- The tied card. -/
theorem card_holds : Rows.FnMixedCardSaid :=
  Claim7.holds_tied_plain_at .later [] [.data, .sentinel, .listed, .data, .sentinel, .sentinel, .sentinel, .sentinel, .pinned] true (true, "c45102d30457ad988c38086517644fd4406cc246a1e3d89bc902267e1c421cac") true
    over (fun _ h => by cases h) (by kernel_rfl) (fun _ h => by cases h) fnMixed_row_tie rfl ⟨rfl, rfl⟩ (by kernel_rfl) rfl
    (fun f fn hf hfn => by
      obtain rfl : f = 3 := Option.some.inj ((show Tryz.prog.funcNamed "pub-seniority/laws.FnMixed" = some 3 by kernel_rfl).symm.trans hf) |>.symm
      obtain rfl : fn = Tryz.f3 := (Option.some.inj (Tryz.func3.symm.trans hfn)).symm
      exact ⟨by kernel_rfl, fun j t ht => by
        have hm : t ∈ Tryz.f3.params.toList := Array.mem_toList_iff.2 (Array.mem_of_getElem? ht)
        have hall : (Tryz.f3.params.toList.all fun u => !Tryz.prog.wantsStandIn u) = true := by kernel_rfl
        exact (show Tryz.prog.wantsStandIn t = false by simpa using List.all_eq_true.1 hall t hm)⟩)
    (by kernel_rfl)
#print axioms card_holds
end Go.Proofs.YtnbpoplomdocjaaGreatDoor.fnMixed
namespace Go.Proofs.YtnbpoplomdocjaaGreatDoor
/-- The card, under a short name, for the claim. -/
theorem fnMixed_holds : Rows.FnMixedCardSaid := fnMixed.card_holds
end Go.Proofs.YtnbpoplomdocjaaGreatDoor
