-- Written by a working copy of the kit's print program, turned at a few places by wip/tool/mkprint.py. Lean checks it.
import Derived.Test.YtfmndbmlpfgbnaaGreatDoorQYx0
import Derived.Test.YtfmndbmlpfgbnaaGreatDoorQYx2
namespace Go.Proofs.YtfmndbmlpfgbnaaGreatDoor.QY
open Go.RowKit Go.Proofs.YtfmndbmlpfgbnaaGreatDoorW.PrintWords Go.Proofs.YtfmndbmlpfgbnaaGreatDoorW.PrintLast Go.Proofs.YtfmndbmlpfgbnaaGreatDoorW.PrintMore
attribute [local go_sem] max2_int min2_int max_two min_two max_three min_three max_four min_four   -- for this text's walks alone
set_option linter.unusedVariables false
set_option linter.unusedSimpArgs false

/-! ### spec_PyPIKnown: function 13 -/
mutual
def spec_PyPIKnown.j0 : Nat → Bool → Bool → ByteArray → List (S23) → Bool → ByteArray → Bool → ByteArray → Bool → ByteArray → Bool → ByteArray → Bool → ByteArray → Bool → ByteArray → List ByteArray → List ByteArray → Option (Bool)
  | 0, _, _, _, _, _, _, _, _, _, _, _, _, _, _, _, _, _, _ => none
  | k + 1, x26, x116000, x116001, x116002, x116003, x116004, x116005, x116006, x116007, x116008, x116009, x116010, x116011, x116012, x116013, x116014, x116015, x116016 => if x26 = true then (some false) else (spec_PyPIKnown.l0 k 0 x116000 x116001 x116002 x116003 x116004 x116005 x116006 x116007 x116008 x116009 x116010 x116011 x116012 x116013 x116014 x116015 x116016)
def spec_PyPIKnown.l0 : Nat → Int → Bool → ByteArray → List (S23) → Bool → ByteArray → Bool → ByteArray → Bool → ByteArray → Bool → ByteArray → Bool → ByteArray → Bool → ByteArray → List ByteArray → List ByteArray → Option (Bool)
  | 0, _, _, _, _, _, _, _, _, _, _, _, _, _, _, _, _, _, _ => none
  | k + 1, x3, x116000, x116001, x116002, x116003, x116004, x116005, x116006, x116007, x116008, x116009, x116010, x116011, x116012, x116013, x116014, x116015, x116016 => if x3 < (x116002.length : Int) then (if 0 ≤ x3 then (if (rd_T23 x116002 x3).f0 = true then (some false) else (spec_PyPIKnown.l0 k (wrap64 (x3 + 1)) x116000 x116001 x116002 x116003 x116004 x116005 x116006 x116007 x116008 x116009 x116010 x116011 x116012 x116013 x116014 x116015 x116016)) else (none)) else (spec_PyPIKnown.l1 k 0 x116000 x116001 x116002 x116003 x116004 x116005 x116006 x116007 x116008 x116009 x116010 x116011 x116012 x116013 x116014 x116015 x116016)
def spec_PyPIKnown.l1 : Nat → Int → Bool → ByteArray → List (S23) → Bool → ByteArray → Bool → ByteArray → Bool → ByteArray → Bool → ByteArray → Bool → ByteArray → Bool → ByteArray → List ByteArray → List ByteArray → Option (Bool)
  | 0, _, _, _, _, _, _, _, _, _, _, _, _, _, _, _, _, _, _ => none
  | k + 1, x4, x116000, x116001, x116002, x116003, x116004, x116005, x116006, x116007, x116008, x116009, x116010, x116011, x116012, x116013, x116014, x116015, x116016 => if x4 < (x116015.length : Int) then (if 0 ≤ x4 then ((spec_Ascii.f k (rdOf ByteArray.empty x116015 x4)).bind fun t120 => (if t120 = true then (spec_PyPIKnown.l1 k (wrap64 (x4 + 1)) x116000 x116001 x116002 x116003 x116004 x116005 x116006 x116007 x116008 x116009 x116010 x116011 x116012 x116013 x116014 x116015 x116016) else (some false))) else (none)) else (spec_PyPIKnown.l2 k 0 x116000 x116001 x116002 x116003 x116004 x116005 x116006 x116007 x116008 x116009 x116010 x116011 x116012 x116013 x116014 x116015 x116016)
def spec_PyPIKnown.l2 : Nat → Int → Bool → ByteArray → List (S23) → Bool → ByteArray → Bool → ByteArray → Bool → ByteArray → Bool → ByteArray → Bool → ByteArray → Bool → ByteArray → List ByteArray → List ByteArray → Option (Bool)
  | 0, _, _, _, _, _, _, _, _, _, _, _, _, _, _, _, _, _, _ => none
  | k + 1, x5, x116000, x116001, x116002, x116003, x116004, x116005, x116006, x116007, x116008, x116009, x116010, x116011, x116012, x116013, x116014, x116015, x116016 => if x5 < (x116016.length : Int) then (if 0 ≤ x5 then ((spec_Ascii.f k (rdOf ByteArray.empty x116016 x5)).bind fun t122 => (if t122 = true then (spec_PyPIKnown.l2 k (wrap64 (x5 + 1)) x116000 x116001 x116002 x116003 x116004 x116005 x116006 x116007 x116008 x116009 x116010 x116011 x116012 x116013 x116014 x116015 x116016) else (some false))) else (none)) else ((spec_pypiLetterOK.f k x116003 x116004 x116005 x116006).bind fun t123 => (if t123 = true then ((spec_pypiLetterOK.f k x116007 x116008 x116009 x116010).bind fun t124 => (if t124 = true then ((spec_pypiLetterOK.f k x116011 x116012 x116013 x116014).bind fun t125 => (if t125 = true then ((spec_IdentifiersKnown.f k x116015).bind fun t126 => (some t126)) else (some false))) else (some false))) else (some false)))
end
def spec_PyPIKnown.f (k : Nat) (a0_0 : Bool) (a0_1 : ByteArray) (l0_2 : List (S23)) (a0_3 : Bool) (a0_4 : ByteArray) (a0_5 : Bool) (a0_6 : ByteArray) (a0_7 : Bool) (a0_8 : ByteArray) (a0_9 : Bool) (a0_10 : ByteArray) (a0_11 : Bool) (a0_12 : ByteArray) (a0_13 : Bool) (a0_14 : ByteArray) (l0_15 : List ByteArray) (l0_16 : List ByteArray) : Option (Bool) := (spec_IntOK.f k a0_0 a0_1).bind fun t116 => (if t116 = true then ((spec_IntsOK.f k l0_2).bind fun t117 => (if t117 = true then (if a0_0 = true then (spec_PyPIKnown.j0 k true a0_0 a0_1 l0_2 a0_3 a0_4 a0_5 a0_6 a0_7 a0_8 a0_9 a0_10 a0_11 a0_12 a0_13 a0_14 l0_15 l0_16) else (spec_PyPIKnown.j0 k ((l0_15.length : Int) == 0) a0_0 a0_1 l0_2 a0_3 a0_4 a0_5 a0_6 a0_7 a0_8 a0_9 a0_10 a0_11 a0_12 a0_13 a0_14 l0_15 l0_16)) else (spec_PyPIKnown.j0 k true a0_0 a0_1 l0_2 a0_3 a0_4 a0_5 a0_6 a0_7 a0_8 a0_9 a0_10 a0_11 a0_12 a0_13 a0_14 l0_15 l0_16))) else (spec_PyPIKnown.j0 k true a0_0 a0_1 l0_2 a0_3 a0_4 a0_5 a0_6 a0_7 a0_8 a0_9 a0_10 a0_11 a0_12 a0_13 a0_14 l0_15 l0_16))
theorem spec_PyPIKnown.mono_l : ∀ k, (∀ y0 y1 y2 y3 y4 y5 y6 y7 y8 y9 y10 y11 y12 y13 y14 y15 y16 y17, LeO (spec_PyPIKnown.j0 k y0 y1 y2 y3 y4 y5 y6 y7 y8 y9 y10 y11 y12 y13 y14 y15 y16 y17) (spec_PyPIKnown.j0 (k + 1) y0 y1 y2 y3 y4 y5 y6 y7 y8 y9 y10 y11 y12 y13 y14 y15 y16 y17)) ∧ (∀ y0 y1 y2 y3 y4 y5 y6 y7 y8 y9 y10 y11 y12 y13 y14 y15 y16 y17, LeO (spec_PyPIKnown.l0 k y0 y1 y2 y3 y4 y5 y6 y7 y8 y9 y10 y11 y12 y13 y14 y15 y16 y17) (spec_PyPIKnown.l0 (k + 1) y0 y1 y2 y3 y4 y5 y6 y7 y8 y9 y10 y11 y12 y13 y14 y15 y16 y17)) ∧ (∀ y0 y1 y2 y3 y4 y5 y6 y7 y8 y9 y10 y11 y12 y13 y14 y15 y16 y17, LeO (spec_PyPIKnown.l1 k y0 y1 y2 y3 y4 y5 y6 y7 y8 y9 y10 y11 y12 y13 y14 y15 y16 y17) (spec_PyPIKnown.l1 (k + 1) y0 y1 y2 y3 y4 y5 y6 y7 y8 y9 y10 y11 y12 y13 y14 y15 y16 y17)) ∧ (∀ y0 y1 y2 y3 y4 y5 y6 y7 y8 y9 y10 y11 y12 y13 y14 y15 y16 y17, LeO (spec_PyPIKnown.l2 k y0 y1 y2 y3 y4 y5 y6 y7 y8 y9 y10 y11 y12 y13 y14 y15 y16 y17) (spec_PyPIKnown.l2 (k + 1) y0 y1 y2 y3 y4 y5 y6 y7 y8 y9 y10 y11 y12 y13 y14 y15 y16 y17))
  | 0 => ⟨fun _ _ _ _ _ _ _ _ _ _ _ _ _ _ _ _ _ _ r h => by simp [spec_PyPIKnown.j0] at h, fun _ _ _ _ _ _ _ _ _ _ _ _ _ _ _ _ _ _ r h => by simp [spec_PyPIKnown.l0] at h, fun _ _ _ _ _ _ _ _ _ _ _ _ _ _ _ _ _ _ r h => by simp [spec_PyPIKnown.l1] at h, fun _ _ _ _ _ _ _ _ _ _ _ _ _ _ _ _ _ _ r h => by simp [spec_PyPIKnown.l2] at h⟩
  | k + 1 => by
    obtain ⟨ih0, ih1, ih2, ih3⟩ := spec_PyPIKnown.mono_l k
    refine ⟨?_, ?_, ?_, ?_⟩
    · intro y0 y1 y2 y3 y4 y5 y6 y7 y8 y9 y10 y11 y12 y13 y14 y15 y16 y17
      unfold spec_PyPIKnown.j0
      repeat' first
      | (with_reducible exact ih0 _ _ _ _ _ _ _ _ _ _ _ _ _ _ _ _ _ _)
      | (with_reducible exact ih1 _ _ _ _ _ _ _ _ _ _ _ _ _ _ _ _ _ _)
      | (with_reducible exact ih2 _ _ _ _ _ _ _ _ _ _ _ _ _ _ _ _ _ _)
      | (with_reducible exact ih3 _ _ _ _ _ _ _ _ _ _ _ _ _ _ _ _ _ _)
      | (with_reducible exact spec_Ascii.mono _ _)
      | (with_reducible exact spec_IdentifiersKnown.mono _ _)
      | (with_reducible exact spec_IntOK.mono _ _ _)
      | (with_reducible exact spec_IntsOK.mono _ _)
      | (with_reducible exact spec_pypiLetterOK.mono _ _ _ _ _)
      | (with_reducible exact LeO.refl _)
      | (with_reducible exact LeO.none _)
      | (with_reducible refine LeO.ite ?_ ?_)
      | (with_reducible refine LeO.bind ?_ (fun _ => ?_))
      | exact ih0 _ _ _ _ _ _ _ _ _ _ _ _ _ _ _ _ _ _
      | exact ih1 _ _ _ _ _ _ _ _ _ _ _ _ _ _ _ _ _ _
      | exact ih2 _ _ _ _ _ _ _ _ _ _ _ _ _ _ _ _ _ _
      | exact ih3 _ _ _ _ _ _ _ _ _ _ _ _ _ _ _ _ _ _
      | exact spec_Ascii.mono _ _
      | exact spec_IdentifiersKnown.mono _ _
      | exact spec_IntOK.mono _ _ _
      | exact spec_IntsOK.mono _ _
      | exact spec_pypiLetterOK.mono _ _ _ _ _
      | exact LeO.none _
      | refine LeO.ite ?_ ?_
      | refine LeO.bind ?_ (fun _ => ?_)
    · intro y0 y1 y2 y3 y4 y5 y6 y7 y8 y9 y10 y11 y12 y13 y14 y15 y16 y17
      unfold spec_PyPIKnown.l0
      repeat' first
      | (with_reducible exact ih0 _ _ _ _ _ _ _ _ _ _ _ _ _ _ _ _ _ _)
      | (with_reducible exact ih1 _ _ _ _ _ _ _ _ _ _ _ _ _ _ _ _ _ _)
      | (with_reducible exact ih2 _ _ _ _ _ _ _ _ _ _ _ _ _ _ _ _ _ _)
      | (with_reducible exact ih3 _ _ _ _ _ _ _ _ _ _ _ _ _ _ _ _ _ _)
      | (with_reducible exact spec_Ascii.mono _ _)
      | (with_reducible exact spec_IdentifiersKnown.mono _ _)
      | (with_reducible exact spec_IntOK.mono _ _ _)
      | (with_reducible exact spec_IntsOK.mono _ _)
      | (with_reducible exact spec_pypiLetterOK.mono _ _ _ _ _)
      | (with_reducible exact LeO.refl _)
      | (with_reducible exact LeO.none _)
      | (with_reducible refine LeO.ite ?_ ?_)
      | (with_reducible refine LeO.bind ?_ (fun _ => ?_))
      | exact ih0 _ _ _ _ _ _ _ _ _ _ _ _ _ _ _ _ _ _
      | exact ih1 _ _ _ _ _ _ _ _ _ _ _ _ _ _ _ _ _ _
      | exact ih2 _ _ _ _ _ _ _ _ _ _ _ _ _ _ _ _ _ _
      | exact ih3 _ _ _ _ _ _ _ _ _ _ _ _ _ _ _ _ _ _
      | exact spec_Ascii.mono _ _
      | exact spec_IdentifiersKnown.mono _ _
      | exact spec_IntOK.mono _ _ _
      | exact spec_IntsOK.mono _ _
      | exact spec_pypiLetterOK.mono _ _ _ _ _
      | exact LeO.none _
      | refine LeO.ite ?_ ?_
      | refine LeO.bind ?_ (fun _ => ?_)
    · intro y0 y1 y2 y3 y4 y5 y6 y7 y8 y9 y10 y11 y12 y13 y14 y15 y16 y17
      unfold spec_PyPIKnown.l1
      repeat' first
      | (with_reducible exact ih0 _ _ _ _ _ _ _ _ _ _ _ _ _ _ _ _ _ _)
      | (with_reducible exact ih1 _ _ _ _ _ _ _ _ _ _ _ _ _ _ _ _ _ _)
      | (with_reducible exact ih2 _ _ _ _ _ _ _ _ _ _ _ _ _ _ _ _ _ _)
      | (with_reducible exact ih3 _ _ _ _ _ _ _ _ _ _ _ _ _ _ _ _ _ _)
      | (with_reducible exact spec_Ascii.mono _ _)
      | (with_reducible exact spec_IdentifiersKnown.mono _ _)
      | (with_reducible exact spec_IntOK.mono _ _ _)
      | (with_reducible exact spec_IntsOK.mono _ _)
      | (with_reducible exact spec_pypiLetterOK.mono _ _ _ _ _)
      | (with_reducible exact LeO.refl _)
      | (with_reducible exact LeO.none _)
      | (with_reducible refine LeO.ite ?_ ?_)
      | (with_reducible refine LeO.bind ?_ (fun _ => ?_))
      | exact ih0 _ _ _ _ _ _ _ _ _ _ _ _ _ _ _ _ _ _
      | exact ih1 _ _ _ _ _ _ _ _ _ _ _ _ _ _ _ _ _ _
      | exact ih2 _ _ _ _ _ _ _ _ _ _ _ _ _ _ _ _ _ _
      | exact ih3 _ _ _ _ _ _ _ _ _ _ _ _ _ _ _ _ _ _
      | exact spec_Ascii.mono _ _
      | exact spec_IdentifiersKnown.mono _ _
      | exact spec_IntOK.mono _ _ _
      | exact spec_IntsOK.mono _ _
      | exact spec_pypiLetterOK.mono _ _ _ _ _
      | exact LeO.none _
      | refine LeO.ite ?_ ?_
      | refine LeO.bind ?_ (fun _ => ?_)
    · intro y0 y1 y2 y3 y4 y5 y6 y7 y8 y9 y10 y11 y12 y13 y14 y15 y16 y17
      unfold spec_PyPIKnown.l2
      repeat' first
      | (with_reducible exact ih0 _ _ _ _ _ _ _ _ _ _ _ _ _ _ _ _ _ _)
      | (with_reducible exact ih1 _ _ _ _ _ _ _ _ _ _ _ _ _ _ _ _ _ _)
      | (with_reducible exact ih2 _ _ _ _ _ _ _ _ _ _ _ _ _ _ _ _ _ _)
      | (with_reducible exact ih3 _ _ _ _ _ _ _ _ _ _ _ _ _ _ _ _ _ _)
      | (with_reducible exact spec_Ascii.mono _ _)
      | (with_reducible exact spec_IdentifiersKnown.mono _ _)
      | (with_reducible exact spec_IntOK.mono _ _ _)
      | (with_reducible exact spec_IntsOK.mono _ _)
      | (with_reducible exact spec_pypiLetterOK.mono _ _ _ _ _)
      | (with_reducible exact LeO.refl _)
      | (with_reducible exact LeO.none _)
      | (with_reducible refine LeO.ite ?_ ?_)
      | (with_reducible refine LeO.bind ?_ (fun _ => ?_))
      | exact ih0 _ _ _ _ _ _ _ _ _ _ _ _ _ _ _ _ _ _
      | exact ih1 _ _ _ _ _ _ _ _ _ _ _ _ _ _ _ _ _ _
      | exact ih2 _ _ _ _ _ _ _ _ _ _ _ _ _ _ _ _ _ _
      | exact ih3 _ _ _ _ _ _ _ _ _ _ _ _ _ _ _ _ _ _
      | exact spec_Ascii.mono _ _
      | exact spec_IdentifiersKnown.mono _ _
      | exact spec_IntOK.mono _ _ _
      | exact spec_IntsOK.mono _ _
      | exact spec_pypiLetterOK.mono _ _ _ _ _
      | exact LeO.none _
      | refine LeO.ite ?_ ?_
      | refine LeO.bind ?_ (fun _ => ?_)
theorem spec_PyPIKnown.mono : ∀ a0 a1 a2 a3 a4 a5 a6 a7 a8 a9 a10 a11 a12 a13 a14 a15 a16 k, LeO (spec_PyPIKnown.f k a0 a1 a2 a3 a4 a5 a6 a7 a8 a9 a10 a11 a12 a13 a14 a15 a16) (spec_PyPIKnown.f (k + 1) a0 a1 a2 a3 a4 a5 a6 a7 a8 a9 a10 a11 a12 a13 a14 a15 a16) := by
  intro a0 a1 a2 a3 a4 a5 a6 a7 a8 a9 a10 a11 a12 a13 a14 a15 a16 k
  obtain ⟨ih0, ih1, ih2, ih3⟩ := spec_PyPIKnown.mono_l k
  unfold spec_PyPIKnown.f
  repeat' first
      | (with_reducible exact ih0 _ _ _ _ _ _ _ _ _ _ _ _ _ _ _ _ _ _)
      | (with_reducible exact ih1 _ _ _ _ _ _ _ _ _ _ _ _ _ _ _ _ _ _)
      | (with_reducible exact ih2 _ _ _ _ _ _ _ _ _ _ _ _ _ _ _ _ _ _)
      | (with_reducible exact ih3 _ _ _ _ _ _ _ _ _ _ _ _ _ _ _ _ _ _)
      | (with_reducible exact spec_Ascii.mono _ _)
      | (with_reducible exact spec_IdentifiersKnown.mono _ _)
      | (with_reducible exact spec_IntOK.mono _ _ _)
      | (with_reducible exact spec_IntsOK.mono _ _)
      | (with_reducible exact spec_pypiLetterOK.mono _ _ _ _ _)
      | (with_reducible exact LeO.refl _)
      | (with_reducible exact LeO.none _)
      | (with_reducible refine LeO.ite ?_ ?_)
      | (with_reducible refine LeO.bind ?_ (fun _ => ?_))
      | exact ih0 _ _ _ _ _ _ _ _ _ _ _ _ _ _ _ _ _ _
      | exact ih1 _ _ _ _ _ _ _ _ _ _ _ _ _ _ _ _ _ _
      | exact ih2 _ _ _ _ _ _ _ _ _ _ _ _ _ _ _ _ _ _
      | exact ih3 _ _ _ _ _ _ _ _ _ _ _ _ _ _ _ _ _ _
      | exact spec_Ascii.mono _ _
      | exact spec_IdentifiersKnown.mono _ _
      | exact spec_IntOK.mono _ _ _
      | exact spec_IntsOK.mono _ _
      | exact spec_pypiLetterOK.mono _ _ _ _ _
      | exact LeO.none _
      | refine LeO.ite ?_ ?_
      | refine LeO.bind ?_ (fun _ => ?_)
set_option maxHeartbeats 8000000 in
set_option maxRecDepth 100000 in
theorem spec_PyPIKnown.calls (k : Nat) (a0_0 : Bool) (a0_1 : ByteArray) (A0_2 : Option Addr) (c0_2 : Nat) (l0_2 : List (S23)) (a0_3 : Bool) (a0_4 : ByteArray) (a0_5 : Bool) (a0_6 : ByteArray) (a0_7 : Bool) (a0_8 : ByteArray) (a0_9 : Bool) (a0_10 : ByteArray) (a0_11 : Bool) (a0_12 : ByteArray) (a0_13 : Bool) (a0_14 : ByteArray) (A0_15 : Option Addr) (c0_15 : Nat) (l0_15 : List ByteArray) (A0_16 : Option Addr) (c0_16 : Nat) (l0_16 : List ByteArray) (r : Bool) (w : World) (hr0_2 : Kd.C k23 w A0_2 l0_2.length l0_2) (hc0_2 : l0_2.length ≤ c0_2) (hr0_15 : Kd.C Kd.string w A0_15 l0_15.length l0_15) (hc0_15 : l0_15.length ≤ c0_15) (hr0_16 : Kd.C Kd.string w A0_16 l0_16.length l0_16) (hc0_16 : l0_16.length ≤ c0_16) (h : spec_PyPIKnown.f k a0_0 a0_1 l0_2 a0_3 a0_4 a0_5 a0_6 a0_7 a0_8 a0_9 a0_10 a0_11 a0_12 a0_13 a0_14 l0_15 l0_16 = some r) :
    Calls Tryz.prog 13 #[.agg #[.bool a0_0, .string a0_1, .slice A0_2 l0_2.length c0_2, .bool a0_3, .string a0_4, .bool a0_5, .string a0_6, .bool a0_7, .string a0_8, .bool a0_9, .string a0_10, .bool a0_11, .string a0_12, .bool a0_13, .string a0_14, .slice A0_15 l0_15.length c0_15, .slice A0_16 l0_16.length c0_16]] w fun e w' => e = .returned (.bool r) ∧ Below w.heap.size w w' := by
  have hu29 := Tryz.underlying29
  have hu23 := Tryz.underlying23
  have hu26 := Tryz.underlying26
  have HR0_2 := Aside0.mk hr0_2
  have HC0_2 := Aside0.mk hc0_2
  clear hr0_2 hc0_2
  have HR0_15 := Aside0.mk hr0_15
  have HC0_15 := Aside0.mk hc0_15
  clear hr0_15 hc0_15
  have HR0_16 := Aside0.mk hr0_16
  have HC0_16 := Aside0.mk hc0_16
  clear hr0_16 hc0_16
  have HB := Aside0.mk (Below.refl w.heap.size w)
  have H : ((spec_IntOK.f k a0_0 a0_1).bind fun t116 => (if t116 = true then ((spec_IntsOK.f k l0_2).bind fun t117 => (if t117 = true then (if a0_0 = true then (spec_PyPIKnown.j0 k true a0_0 a0_1 l0_2 a0_3 a0_4 a0_5 a0_6 a0_7 a0_8 a0_9 a0_10 a0_11 a0_12 a0_13 a0_14 l0_15 l0_16) else (spec_PyPIKnown.j0 k ((l0_15.length : Int) == 0) a0_0 a0_1 l0_2 a0_3 a0_4 a0_5 a0_6 a0_7 a0_8 a0_9 a0_10 a0_11 a0_12 a0_13 a0_14 l0_15 l0_16)) else (spec_PyPIKnown.j0 k true a0_0 a0_1 l0_2 a0_3 a0_4 a0_5 a0_6 a0_7 a0_8 a0_9 a0_10 a0_11 a0_12 a0_13 a0_14 l0_15 l0_16))) else (spec_PyPIKnown.j0 k true a0_0 a0_1 l0_2 a0_3 a0_4 a0_5 a0_6 a0_7 a0_8 a0_9 a0_10 a0_11 a0_12 a0_13 a0_14 l0_15 l0_16))) = some r := h
  clear h
  have HC2 := Aside0.mk H
  clear H
  go_enter Tryz.func13, Tryz.ntmps13
  go_upto_region 1 with (first | ((with_reducible refine gate_dst (N := 1) rfl ?_); (try (refine gate_guard (by rfl) ?_; dsimp only)); refine box_event ?hg (N := 1) ?hd (cs := #[.bool a0_0, .string a0_1, .slice A0_2 l0_2.length c0_2, .bool a0_3, .string a0_4, .bool a0_5, .string a0_6, .bool a0_7, .string a0_8, .bool a0_9, .string a0_10, .bool a0_11, .string a0_12, .bool a0_13, .string a0_14, .slice A0_15 l0_15.length c0_15, .slice A0_16 l0_16.length c0_16]) (t := 29) ?hr ?_; (case hd => rfl); (case hg => rfl); (case hr => first | (go_simp; done) | (go_simp; rfl)); intro gb115 hg w3 hbox hb; have n0_ := Aside0.mk (below_step (by repeat (first | (with_reducible first | exact HB.out | apply below_alloc | apply pw_below_drewN | apply below_drew1) | exact HB.out)) hb); have n1_ := Aside0.mk (hbox); have n2_ := Aside0.mk ((by rw [hg]; exact (below_size (by repeat (first | (with_reducible first | exact HB.out | apply below_alloc | apply pw_below_drewN | apply below_drew1) | exact HB.out))) : w.heap.size ≤ gb115)); have n3_ := Aside0.mk ((by rw [hg]; exact (below_size (by repeat (first | (with_reducible first | exact HB.out | apply below_alloc | apply pw_below_drewN | apply below_drew1) | exact HB.out))) : w.heap.size ≤ gb115)); clear HB; have HB := n0_; have BK115 := n1_; have GW115 := n2_; have GE115 := n3_; clear n0_ n1_ n2_ n3_; clear hb hbox hg))
  (try simp only [Act.put, List.setIfInBounds_toArray, List.set_cons_zero, List.set_cons_succ])
  go_cut [26] (fun v26 wc => ∃ (kq : Nat) (x26_1 : Bool), v26 = .bool x26_1 ∧ Aside0 (spec_PyPIKnown.j0 kq x26_1 a0_0 a0_1 l0_2 a0_3 a0_4 a0_5 a0_6 a0_7 a0_8 a0_9 a0_10 a0_11 a0_12 a0_13 a0_14 l0_15 l0_16 = some r) ∧ Aside0 (kq ≤ k) ∧ Aside0 (wc.heap[gb115]? = some (.cells #[.bool a0_0, .string a0_1, (.slice A0_2 l0_2.length c0_2), .bool a0_3, .string a0_4, .bool a0_5, .string a0_6, .bool a0_7, .string a0_8, .bool a0_9, .string a0_10, .bool a0_11, .string a0_12, .bool a0_13, .string a0_14, (.slice A0_15 l0_15.length c0_15), (.slice A0_16 l0_16.length c0_16)] 29 (0, 0))) ∧ Aside0 (Below w.heap.size w wc))
  case first =>
    have H := HC2.out
    clear HC2
    replace H := Option.bind_eq_some_iff.mp H
    obtain ⟨t116, A40, H⟩ := H
    replace H : (if t116 = true then ((spec_IntsOK.f k l0_2).bind fun t117 => (if t117 = true then (if a0_0 = true then (spec_PyPIKnown.j0 k true a0_0 a0_1 l0_2 a0_3 a0_4 a0_5 a0_6 a0_7 a0_8 a0_9 a0_10 a0_11 a0_12 a0_13 a0_14 l0_15 l0_16) else (spec_PyPIKnown.j0 k ((l0_15.length : Int) == 0) a0_0 a0_1 l0_2 a0_3 a0_4 a0_5 a0_6 a0_7 a0_8 a0_9 a0_10 a0_11 a0_12 a0_13 a0_14 l0_15 l0_16)) else (spec_PyPIKnown.j0 k true a0_0 a0_1 l0_2 a0_3 a0_4 a0_5 a0_6 a0_7 a0_8 a0_9 a0_10 a0_11 a0_12 a0_13 a0_14 l0_15 l0_16))) else (spec_PyPIKnown.j0 k true a0_0 a0_1 l0_2 a0_3 a0_4 a0_5 a0_6 a0_7 a0_8 a0_9 a0_10 a0_11 a0_12 a0_13 a0_14 l0_15 l0_16)) = some r := H
    have A4 := Aside0.mk A40
    clear A40
    by_cases c5 : t116 = true
    · subst c5
      have H1 : ((spec_IntsOK.f k l0_2).bind fun t117 => (if t117 = true then (if a0_0 = true then (spec_PyPIKnown.j0 k true a0_0 a0_1 l0_2 a0_3 a0_4 a0_5 a0_6 a0_7 a0_8 a0_9 a0_10 a0_11 a0_12 a0_13 a0_14 l0_15 l0_16) else (spec_PyPIKnown.j0 k ((l0_15.length : Int) == 0) a0_0 a0_1 l0_2 a0_3 a0_4 a0_5 a0_6 a0_7 a0_8 a0_9 a0_10 a0_11 a0_12 a0_13 a0_14 l0_15 l0_16)) else (spec_PyPIKnown.j0 k true a0_0 a0_1 l0_2 a0_3 a0_4 a0_5 a0_6 a0_7 a0_8 a0_9 a0_10 a0_11 a0_12 a0_13 a0_14 l0_15 l0_16))) = some r := by rw [if_pos rfl] at H; exact H
      clear H
      have H := H1
      clear H1
      replace H := Option.bind_eq_some_iff.mp H
      obtain ⟨t117, A60, H⟩ := H
      replace H : (if t117 = true then (if a0_0 = true then (spec_PyPIKnown.j0 k true a0_0 a0_1 l0_2 a0_3 a0_4 a0_5 a0_6 a0_7 a0_8 a0_9 a0_10 a0_11 a0_12 a0_13 a0_14 l0_15 l0_16) else (spec_PyPIKnown.j0 k ((l0_15.length : Int) == 0) a0_0 a0_1 l0_2 a0_3 a0_4 a0_5 a0_6 a0_7 a0_8 a0_9 a0_10 a0_11 a0_12 a0_13 a0_14 l0_15 l0_16)) else (spec_PyPIKnown.j0 k true a0_0 a0_1 l0_2 a0_3 a0_4 a0_5 a0_6 a0_7 a0_8 a0_9 a0_10 a0_11 a0_12 a0_13 a0_14 l0_15 l0_16)) = some r := H
      have A6 := Aside0.mk A60
      clear A60
      by_cases c7 : t117 = true
      · subst c7
        have H1 : (if a0_0 = true then (spec_PyPIKnown.j0 k true a0_0 a0_1 l0_2 a0_3 a0_4 a0_5 a0_6 a0_7 a0_8 a0_9 a0_10 a0_11 a0_12 a0_13 a0_14 l0_15 l0_16) else (spec_PyPIKnown.j0 k ((l0_15.length : Int) == 0) a0_0 a0_1 l0_2 a0_3 a0_4 a0_5 a0_6 a0_7 a0_8 a0_9 a0_10 a0_11 a0_12 a0_13 a0_14 l0_15 l0_16)) = some r := by rw [if_pos rfl] at H; exact H
        clear H
        have H := H1
        clear H1
        by_cases c8 : a0_0 = true
        · subst c8
          have H1 : (spec_PyPIKnown.j0 k true true a0_1 l0_2 a0_3 a0_4 a0_5 a0_6 a0_7 a0_8 a0_9 a0_10 a0_11 a0_12 a0_13 a0_14 l0_15 l0_16) = some r := by rw [if_pos rfl] at H; exact H
          clear H
          have H := H1
          clear H1
          have H' := Aside0.mk H
          clear H
          have hcz9_0 : w3.cell? ⟨gb115, 0, none⟩ = some (.bool true) := (blk_cell BK115.out 0).trans rfl
          have hcz9_1 : w3.cell? ⟨gb115, 1, none⟩ = some (.string a0_1) := (blk_cell BK115.out 1).trans rfl
          have hcz9_2 : w3.cell? ⟨gb115, 2, none⟩ = some (.slice A0_2 l0_2.length c0_2) := (blk_cell BK115.out 2).trans rfl
          have hcz9_3 : w3.cell? ⟨gb115, 3, none⟩ = some (.bool a0_3) := (blk_cell BK115.out 3).trans rfl
          have hcz9_4 : w3.cell? ⟨gb115, 4, none⟩ = some (.string a0_4) := (blk_cell BK115.out 4).trans rfl
          have hcz9_5 : w3.cell? ⟨gb115, 5, none⟩ = some (.bool a0_5) := (blk_cell BK115.out 5).trans rfl
          have hcz9_6 : w3.cell? ⟨gb115, 6, none⟩ = some (.string a0_6) := (blk_cell BK115.out 6).trans rfl
          have hcz9_7 : w3.cell? ⟨gb115, 7, none⟩ = some (.bool a0_7) := (blk_cell BK115.out 7).trans rfl
          have hcz9_8 : w3.cell? ⟨gb115, 8, none⟩ = some (.string a0_8) := (blk_cell BK115.out 8).trans rfl
          have hcz9_9 : w3.cell? ⟨gb115, 9, none⟩ = some (.bool a0_9) := (blk_cell BK115.out 9).trans rfl
          have hcz9_10 : w3.cell? ⟨gb115, 10, none⟩ = some (.string a0_10) := (blk_cell BK115.out 10).trans rfl
          have hcz9_11 : w3.cell? ⟨gb115, 11, none⟩ = some (.bool a0_11) := (blk_cell BK115.out 11).trans rfl
          have hcz9_12 : w3.cell? ⟨gb115, 12, none⟩ = some (.string a0_12) := (blk_cell BK115.out 12).trans rfl
          have hcz9_13 : w3.cell? ⟨gb115, 13, none⟩ = some (.bool a0_13) := (blk_cell BK115.out 13).trans rfl
          have hcz9_14 : w3.cell? ⟨gb115, 14, none⟩ = some (.string a0_14) := (blk_cell BK115.out 14).trans rfl
          have hcz9_15 : w3.cell? ⟨gb115, 15, none⟩ = some (.slice A0_15 l0_15.length c0_15) := (blk_cell BK115.out 15).trans rfl
          have hcz9_16 : w3.cell? ⟨gb115, 16, none⟩ = some (.slice A0_16 l0_16.length c0_16) := (blk_cell BK115.out 16).trans rfl
          have hfz9_0 := blk_frozen BK115.out 0
          have hfz9_1 := blk_frozen BK115.out 1
          have hfz9_2 := blk_frozen BK115.out 2
          have hfz9_3 := blk_frozen BK115.out 3
          have hfz9_4 := blk_frozen BK115.out 4
          have hfz9_5 := blk_frozen BK115.out 5
          have hfz9_6 := blk_frozen BK115.out 6
          have hfz9_7 := blk_frozen BK115.out 7
          have hfz9_8 := blk_frozen BK115.out 8
          have hfz9_9 := blk_frozen BK115.out 9
          have hfz9_10 := blk_frozen BK115.out 10
          have hfz9_11 := blk_frozen BK115.out 11
          have hfz9_12 := blk_frozen BK115.out 12
          have hfz9_13 := blk_frozen BK115.out 13
          have hfz9_14 := blk_frozen BK115.out 14
          have hfz9_15 := blk_frozen BK115.out 15
          have hfz9_16 := blk_frozen BK115.out 16
          go_wp2_with (first | ((with_reducible refine gate_callee (f := 21) rfl ?_); refine goesL_ (some 8) rfl rfl Tryz.func21 (by kernel_rfl) rfl #[.agg #[.bool true, .string a0_1]] rfl (by (try simp only [List.map_toArray, List.map_cons, List.map_nil]); first | done | rfl | (simp only [List.length_drop, List.length_take]; rfl)) ?_; (with_reducible refine (spec_IntOK.calls k true a0_1 true _ A4.out).mono ?_); rintro e w10 ⟨rfl, hb⟩; refine ⟨_, rfl, ?_⟩; have n0_ := Aside0.mk (blk_below (g := gb115) (o := .cells #[.bool true, .string a0_1, .slice A0_2 l0_2.length c0_2, .bool a0_3, .string a0_4, .bool a0_5, .string a0_6, .bool a0_7, .string a0_8, .bool a0_9, .string a0_10, .bool a0_11, .string a0_12, .bool a0_13, .string a0_14, .slice A0_15 l0_15.length c0_15, .slice A0_16 l0_16.length c0_16] 29 (0, 0)) (by (with_reducible repeat (first | refine blk_drewN ?_ _ | refine blk_drew ?_ | refine blk_alloc ?_ _)); exact BK115.out) hb); have n1_ := Aside0.mk (below_step (by repeat (first | (with_reducible first | exact HB.out | apply below_alloc | apply pw_below_drewN | apply below_drew1 | refine below_set ?_ GE115.out) | exact HB.out)) hb); clear BK115; clear HB; have BK115 := n0_; have HB := n1_; clear n0_ n1_; (try clear hb); (try clear hb2); (try clear hk); (try clear hi); have hcz11_0 : w10.cell? ⟨gb115, 0, none⟩ = some (.bool true) := (blk_cell BK115.out 0).trans rfl; have hcz11_1 : w10.cell? ⟨gb115, 1, none⟩ = some (.string a0_1) := (blk_cell BK115.out 1).trans rfl; have hcz11_2 : w10.cell? ⟨gb115, 2, none⟩ = some (.slice A0_2 l0_2.length c0_2) := (blk_cell BK115.out 2).trans rfl; have hcz11_3 : w10.cell? ⟨gb115, 3, none⟩ = some (.bool a0_3) := (blk_cell BK115.out 3).trans rfl; have hcz11_4 : w10.cell? ⟨gb115, 4, none⟩ = some (.string a0_4) := (blk_cell BK115.out 4).trans rfl; have hcz11_5 : w10.cell? ⟨gb115, 5, none⟩ = some (.bool a0_5) := (blk_cell BK115.out 5).trans rfl; have hcz11_6 : w10.cell? ⟨gb115, 6, none⟩ = some (.string a0_6) := (blk_cell BK115.out 6).trans rfl; have hcz11_7 : w10.cell? ⟨gb115, 7, none⟩ = some (.bool a0_7) := (blk_cell BK115.out 7).trans rfl; have hcz11_8 : w10.cell? ⟨gb115, 8, none⟩ = some (.string a0_8) := (blk_cell BK115.out 8).trans rfl; have hcz11_9 : w10.cell? ⟨gb115, 9, none⟩ = some (.bool a0_9) := (blk_cell BK115.out 9).trans rfl; have hcz11_10 : w10.cell? ⟨gb115, 10, none⟩ = some (.string a0_10) := (blk_cell BK115.out 10).trans rfl; have hcz11_11 : w10.cell? ⟨gb115, 11, none⟩ = some (.bool a0_11) := (blk_cell BK115.out 11).trans rfl; have hcz11_12 : w10.cell? ⟨gb115, 12, none⟩ = some (.string a0_12) := (blk_cell BK115.out 12).trans rfl; have hcz11_13 : w10.cell? ⟨gb115, 13, none⟩ = some (.bool a0_13) := (blk_cell BK115.out 13).trans rfl; have hcz11_14 : w10.cell? ⟨gb115, 14, none⟩ = some (.string a0_14) := (blk_cell BK115.out 14).trans rfl; have hcz11_15 : w10.cell? ⟨gb115, 15, none⟩ = some (.slice A0_15 l0_15.length c0_15) := (blk_cell BK115.out 15).trans rfl; have hcz11_16 : w10.cell? ⟨gb115, 16, none⟩ = some (.slice A0_16 l0_16.length c0_16) := (blk_cell BK115.out 16).trans rfl; have hfz11_0 := blk_frozen BK115.out 0; have hfz11_1 := blk_frozen BK115.out 1; have hfz11_2 := blk_frozen BK115.out 2; have hfz11_3 := blk_frozen BK115.out 3; have hfz11_4 := blk_frozen BK115.out 4; have hfz11_5 := blk_frozen BK115.out 5; have hfz11_6 := blk_frozen BK115.out 6; have hfz11_7 := blk_frozen BK115.out 7; have hfz11_8 := blk_frozen BK115.out 8; have hfz11_9 := blk_frozen BK115.out 9; have hfz11_10 := blk_frozen BK115.out 10; have hfz11_11 := blk_frozen BK115.out 11; have hfz11_12 := blk_frozen BK115.out 12; have hfz11_13 := blk_frozen BK115.out 13; have hfz11_14 := blk_frozen BK115.out 14; have hfz11_15 := blk_frozen BK115.out 15; have hfz11_16 := blk_frozen BK115.out 16) | (go_at_call 22; (with_reducible refine (spec_IntsOK.calls k _ _ l0_2 true _ ?side1 ?side2 A6.out).mono ?_); (case side1 => repeat (first | exact (Kd.C_below HR0_2.out HB.out) | (with_reducible refine Kd.C_alloc ?_ _) | (with_reducible refine Kd.C_drewN ?_ _) | (with_reducible refine Kd.C_drew ?_))); (case side2 => exact HC0_2.out); rintro e w12 ⟨rfl, hb⟩; have n0_ := Aside0.mk (blk_below (g := gb115) (o := .cells #[.bool true, .string a0_1, .slice A0_2 l0_2.length c0_2, .bool a0_3, .string a0_4, .bool a0_5, .string a0_6, .bool a0_7, .string a0_8, .bool a0_9, .string a0_10, .bool a0_11, .string a0_12, .bool a0_13, .string a0_14, .slice A0_15 l0_15.length c0_15, .slice A0_16 l0_16.length c0_16] 29 (0, 0)) (by (with_reducible repeat (first | refine blk_drewN ?_ _ | refine blk_drew ?_ | refine blk_alloc ?_ _)); exact BK115.out) hb); have n1_ := Aside0.mk (below_step (by repeat (first | (with_reducible first | exact HB.out | apply below_alloc | apply pw_below_drewN | apply below_drew1 | refine below_set ?_ GE115.out) | exact HB.out)) hb); clear BK115; clear HB; have BK115 := n0_; have HB := n1_; clear n0_ n1_; (try clear hb); (try clear hb2); (try clear hk); (try clear hi); have hcz13_0 : w12.cell? ⟨gb115, 0, none⟩ = some (.bool true) := (blk_cell BK115.out 0).trans rfl; have hcz13_1 : w12.cell? ⟨gb115, 1, none⟩ = some (.string a0_1) := (blk_cell BK115.out 1).trans rfl; have hcz13_2 : w12.cell? ⟨gb115, 2, none⟩ = some (.slice A0_2 l0_2.length c0_2) := (blk_cell BK115.out 2).trans rfl; have hcz13_3 : w12.cell? ⟨gb115, 3, none⟩ = some (.bool a0_3) := (blk_cell BK115.out 3).trans rfl; have hcz13_4 : w12.cell? ⟨gb115, 4, none⟩ = some (.string a0_4) := (blk_cell BK115.out 4).trans rfl; have hcz13_5 : w12.cell? ⟨gb115, 5, none⟩ = some (.bool a0_5) := (blk_cell BK115.out 5).trans rfl; have hcz13_6 : w12.cell? ⟨gb115, 6, none⟩ = some (.string a0_6) := (blk_cell BK115.out 6).trans rfl; have hcz13_7 : w12.cell? ⟨gb115, 7, none⟩ = some (.bool a0_7) := (blk_cell BK115.out 7).trans rfl; have hcz13_8 : w12.cell? ⟨gb115, 8, none⟩ = some (.string a0_8) := (blk_cell BK115.out 8).trans rfl; have hcz13_9 : w12.cell? ⟨gb115, 9, none⟩ = some (.bool a0_9) := (blk_cell BK115.out 9).trans rfl; have hcz13_10 : w12.cell? ⟨gb115, 10, none⟩ = some (.string a0_10) := (blk_cell BK115.out 10).trans rfl; have hcz13_11 : w12.cell? ⟨gb115, 11, none⟩ = some (.bool a0_11) := (blk_cell BK115.out 11).trans rfl; have hcz13_12 : w12.cell? ⟨gb115, 12, none⟩ = some (.string a0_12) := (blk_cell BK115.out 12).trans rfl; have hcz13_13 : w12.cell? ⟨gb115, 13, none⟩ = some (.bool a0_13) := (blk_cell BK115.out 13).trans rfl; have hcz13_14 : w12.cell? ⟨gb115, 14, none⟩ = some (.string a0_14) := (blk_cell BK115.out 14).trans rfl; have hcz13_15 : w12.cell? ⟨gb115, 15, none⟩ = some (.slice A0_15 l0_15.length c0_15) := (blk_cell BK115.out 15).trans rfl; have hcz13_16 : w12.cell? ⟨gb115, 16, none⟩ = some (.slice A0_16 l0_16.length c0_16) := (blk_cell BK115.out 16).trans rfl; have hfz13_0 := blk_frozen BK115.out 0; have hfz13_1 := blk_frozen BK115.out 1; have hfz13_2 := blk_frozen BK115.out 2; have hfz13_3 := blk_frozen BK115.out 3; have hfz13_4 := blk_frozen BK115.out 4; have hfz13_5 := blk_frozen BK115.out 5; have hfz13_6 := blk_frozen BK115.out 6; have hfz13_7 := blk_frozen BK115.out 7; have hfz13_8 := blk_frozen BK115.out 8; have hfz13_9 := blk_frozen BK115.out 9; have hfz13_10 := blk_frozen BK115.out 10; have hfz13_11 := blk_frozen BK115.out 11; have hfz13_12 := blk_frozen BK115.out 12; have hfz13_13 := blk_frozen BK115.out 13; have hfz13_14 := blk_frozen BK115.out 14; have hfz13_15 := blk_frozen BK115.out 15; have hfz13_16 := blk_frozen BK115.out 16))
          go_meet
          case rel => exact ⟨_, (true), (by first | rfl | (simp; done) | (simp [*]; done) | (simp [bne_nil_]; done)), H', ⟨by first | omega | exact Nat.le_refl _⟩, ⟨by (with_reducible repeat (first | refine blk_drewN ?_ _ | refine blk_drew ?_ | refine blk_alloc ?_ _)); exact BK115.out⟩, ⟨by repeat (first | (with_reducible first | exact HB.out | apply below_alloc | apply pw_below_drewN | apply below_drew1 | refine below_set ?_ GE115.out) | exact HB.out)⟩⟩
        · replace c8 := Bool.eq_false_iff.mpr c8
          subst c8
          have H1 : (spec_PyPIKnown.j0 k ((l0_15.length : Int) == 0) false a0_1 l0_2 a0_3 a0_4 a0_5 a0_6 a0_7 a0_8 a0_9 a0_10 a0_11 a0_12 a0_13 a0_14 l0_15 l0_16) = some r := by rw [if_neg (show ¬ (false = true) by decide)] at H; exact H
          clear H
          have H := H1
          clear H1
          have H' := Aside0.mk H
          clear H
          have hcz14_0 : w3.cell? ⟨gb115, 0, none⟩ = some (.bool false) := (blk_cell BK115.out 0).trans rfl
          have hcz14_1 : w3.cell? ⟨gb115, 1, none⟩ = some (.string a0_1) := (blk_cell BK115.out 1).trans rfl
          have hcz14_2 : w3.cell? ⟨gb115, 2, none⟩ = some (.slice A0_2 l0_2.length c0_2) := (blk_cell BK115.out 2).trans rfl
          have hcz14_3 : w3.cell? ⟨gb115, 3, none⟩ = some (.bool a0_3) := (blk_cell BK115.out 3).trans rfl
          have hcz14_4 : w3.cell? ⟨gb115, 4, none⟩ = some (.string a0_4) := (blk_cell BK115.out 4).trans rfl
          have hcz14_5 : w3.cell? ⟨gb115, 5, none⟩ = some (.bool a0_5) := (blk_cell BK115.out 5).trans rfl
          have hcz14_6 : w3.cell? ⟨gb115, 6, none⟩ = some (.string a0_6) := (blk_cell BK115.out 6).trans rfl
          have hcz14_7 : w3.cell? ⟨gb115, 7, none⟩ = some (.bool a0_7) := (blk_cell BK115.out 7).trans rfl
          have hcz14_8 : w3.cell? ⟨gb115, 8, none⟩ = some (.string a0_8) := (blk_cell BK115.out 8).trans rfl
          have hcz14_9 : w3.cell? ⟨gb115, 9, none⟩ = some (.bool a0_9) := (blk_cell BK115.out 9).trans rfl
          have hcz14_10 : w3.cell? ⟨gb115, 10, none⟩ = some (.string a0_10) := (blk_cell BK115.out 10).trans rfl
          have hcz14_11 : w3.cell? ⟨gb115, 11, none⟩ = some (.bool a0_11) := (blk_cell BK115.out 11).trans rfl
          have hcz14_12 : w3.cell? ⟨gb115, 12, none⟩ = some (.string a0_12) := (blk_cell BK115.out 12).trans rfl
          have hcz14_13 : w3.cell? ⟨gb115, 13, none⟩ = some (.bool a0_13) := (blk_cell BK115.out 13).trans rfl
          have hcz14_14 : w3.cell? ⟨gb115, 14, none⟩ = some (.string a0_14) := (blk_cell BK115.out 14).trans rfl
          have hcz14_15 : w3.cell? ⟨gb115, 15, none⟩ = some (.slice A0_15 l0_15.length c0_15) := (blk_cell BK115.out 15).trans rfl
          have hcz14_16 : w3.cell? ⟨gb115, 16, none⟩ = some (.slice A0_16 l0_16.length c0_16) := (blk_cell BK115.out 16).trans rfl
          have hfz14_0 := blk_frozen BK115.out 0
          have hfz14_1 := blk_frozen BK115.out 1
          have hfz14_2 := blk_frozen BK115.out 2
          have hfz14_3 := blk_frozen BK115.out 3
          have hfz14_4 := blk_frozen BK115.out 4
          have hfz14_5 := blk_frozen BK115.out 5
          have hfz14_6 := blk_frozen BK115.out 6
          have hfz14_7 := blk_frozen BK115.out 7
          have hfz14_8 := blk_frozen BK115.out 8
          have hfz14_9 := blk_frozen BK115.out 9
          have hfz14_10 := blk_frozen BK115.out 10
          have hfz14_11 := blk_frozen BK115.out 11
          have hfz14_12 := blk_frozen BK115.out 12
          have hfz14_13 := blk_frozen BK115.out 13
          have hfz14_14 := blk_frozen BK115.out 14
          have hfz14_15 := blk_frozen BK115.out 15
          have hfz14_16 := blk_frozen BK115.out 16
          go_wp2_with (first | ((with_reducible refine gate_callee (f := 21) rfl ?_); refine goesL_ (some 8) rfl rfl Tryz.func21 (by kernel_rfl) rfl #[.agg #[.bool false, .string a0_1]] rfl (by (try simp only [List.map_toArray, List.map_cons, List.map_nil]); first | done | rfl | (simp only [List.length_drop, List.length_take]; rfl)) ?_; (with_reducible refine (spec_IntOK.calls k false a0_1 true _ A4.out).mono ?_); rintro e w15 ⟨rfl, hb⟩; refine ⟨_, rfl, ?_⟩; have n0_ := Aside0.mk (blk_below (g := gb115) (o := .cells #[.bool false, .string a0_1, .slice A0_2 l0_2.length c0_2, .bool a0_3, .string a0_4, .bool a0_5, .string a0_6, .bool a0_7, .string a0_8, .bool a0_9, .string a0_10, .bool a0_11, .string a0_12, .bool a0_13, .string a0_14, .slice A0_15 l0_15.length c0_15, .slice A0_16 l0_16.length c0_16] 29 (0, 0)) (by (with_reducible repeat (first | refine blk_drewN ?_ _ | refine blk_drew ?_ | refine blk_alloc ?_ _)); exact BK115.out) hb); have n1_ := Aside0.mk (below_step (by repeat (first | (with_reducible first | exact HB.out | apply below_alloc | apply pw_below_drewN | apply below_drew1 | refine below_set ?_ GE115.out) | exact HB.out)) hb); clear BK115; clear HB; have BK115 := n0_; have HB := n1_; clear n0_ n1_; (try clear hb); (try clear hb2); (try clear hk); (try clear hi); have hcz16_0 : w15.cell? ⟨gb115, 0, none⟩ = some (.bool false) := (blk_cell BK115.out 0).trans rfl; have hcz16_1 : w15.cell? ⟨gb115, 1, none⟩ = some (.string a0_1) := (blk_cell BK115.out 1).trans rfl; have hcz16_2 : w15.cell? ⟨gb115, 2, none⟩ = some (.slice A0_2 l0_2.length c0_2) := (blk_cell BK115.out 2).trans rfl; have hcz16_3 : w15.cell? ⟨gb115, 3, none⟩ = some (.bool a0_3) := (blk_cell BK115.out 3).trans rfl; have hcz16_4 : w15.cell? ⟨gb115, 4, none⟩ = some (.string a0_4) := (blk_cell BK115.out 4).trans rfl; have hcz16_5 : w15.cell? ⟨gb115, 5, none⟩ = some (.bool a0_5) := (blk_cell BK115.out 5).trans rfl; have hcz16_6 : w15.cell? ⟨gb115, 6, none⟩ = some (.string a0_6) := (blk_cell BK115.out 6).trans rfl; have hcz16_7 : w15.cell? ⟨gb115, 7, none⟩ = some (.bool a0_7) := (blk_cell BK115.out 7).trans rfl; have hcz16_8 : w15.cell? ⟨gb115, 8, none⟩ = some (.string a0_8) := (blk_cell BK115.out 8).trans rfl; have hcz16_9 : w15.cell? ⟨gb115, 9, none⟩ = some (.bool a0_9) := (blk_cell BK115.out 9).trans rfl; have hcz16_10 : w15.cell? ⟨gb115, 10, none⟩ = some (.string a0_10) := (blk_cell BK115.out 10).trans rfl; have hcz16_11 : w15.cell? ⟨gb115, 11, none⟩ = some (.bool a0_11) := (blk_cell BK115.out 11).trans rfl; have hcz16_12 : w15.cell? ⟨gb115, 12, none⟩ = some (.string a0_12) := (blk_cell BK115.out 12).trans rfl; have hcz16_13 : w15.cell? ⟨gb115, 13, none⟩ = some (.bool a0_13) := (blk_cell BK115.out 13).trans rfl; have hcz16_14 : w15.cell? ⟨gb115, 14, none⟩ = some (.string a0_14) := (blk_cell BK115.out 14).trans rfl; have hcz16_15 : w15.cell? ⟨gb115, 15, none⟩ = some (.slice A0_15 l0_15.length c0_15) := (blk_cell BK115.out 15).trans rfl; have hcz16_16 : w15.cell? ⟨gb115, 16, none⟩ = some (.slice A0_16 l0_16.length c0_16) := (blk_cell BK115.out 16).trans rfl; have hfz16_0 := blk_frozen BK115.out 0; have hfz16_1 := blk_frozen BK115.out 1; have hfz16_2 := blk_frozen BK115.out 2; have hfz16_3 := blk_frozen BK115.out 3; have hfz16_4 := blk_frozen BK115.out 4; have hfz16_5 := blk_frozen BK115.out 5; have hfz16_6 := blk_frozen BK115.out 6; have hfz16_7 := blk_frozen BK115.out 7; have hfz16_8 := blk_frozen BK115.out 8; have hfz16_9 := blk_frozen BK115.out 9; have hfz16_10 := blk_frozen BK115.out 10; have hfz16_11 := blk_frozen BK115.out 11; have hfz16_12 := blk_frozen BK115.out 12; have hfz16_13 := blk_frozen BK115.out 13; have hfz16_14 := blk_frozen BK115.out 14; have hfz16_15 := blk_frozen BK115.out 15; have hfz16_16 := blk_frozen BK115.out 16) | (go_at_call 22; (with_reducible refine (spec_IntsOK.calls k _ _ l0_2 true _ ?side1 ?side2 A6.out).mono ?_); (case side1 => repeat (first | exact (Kd.C_below HR0_2.out HB.out) | (with_reducible refine Kd.C_alloc ?_ _) | (with_reducible refine Kd.C_drewN ?_ _) | (with_reducible refine Kd.C_drew ?_))); (case side2 => exact HC0_2.out); rintro e w17 ⟨rfl, hb⟩; have n0_ := Aside0.mk (blk_below (g := gb115) (o := .cells #[.bool false, .string a0_1, .slice A0_2 l0_2.length c0_2, .bool a0_3, .string a0_4, .bool a0_5, .string a0_6, .bool a0_7, .string a0_8, .bool a0_9, .string a0_10, .bool a0_11, .string a0_12, .bool a0_13, .string a0_14, .slice A0_15 l0_15.length c0_15, .slice A0_16 l0_16.length c0_16] 29 (0, 0)) (by (with_reducible repeat (first | refine blk_drewN ?_ _ | refine blk_drew ?_ | refine blk_alloc ?_ _)); exact BK115.out) hb); have n1_ := Aside0.mk (below_step (by repeat (first | (with_reducible first | exact HB.out | apply below_alloc | apply pw_below_drewN | apply below_drew1 | refine below_set ?_ GE115.out) | exact HB.out)) hb); clear BK115; clear HB; have BK115 := n0_; have HB := n1_; clear n0_ n1_; (try clear hb); (try clear hb2); (try clear hk); (try clear hi); have hcz18_0 : w17.cell? ⟨gb115, 0, none⟩ = some (.bool false) := (blk_cell BK115.out 0).trans rfl; have hcz18_1 : w17.cell? ⟨gb115, 1, none⟩ = some (.string a0_1) := (blk_cell BK115.out 1).trans rfl; have hcz18_2 : w17.cell? ⟨gb115, 2, none⟩ = some (.slice A0_2 l0_2.length c0_2) := (blk_cell BK115.out 2).trans rfl; have hcz18_3 : w17.cell? ⟨gb115, 3, none⟩ = some (.bool a0_3) := (blk_cell BK115.out 3).trans rfl; have hcz18_4 : w17.cell? ⟨gb115, 4, none⟩ = some (.string a0_4) := (blk_cell BK115.out 4).trans rfl; have hcz18_5 : w17.cell? ⟨gb115, 5, none⟩ = some (.bool a0_5) := (blk_cell BK115.out 5).trans rfl; have hcz18_6 : w17.cell? ⟨gb115, 6, none⟩ = some (.string a0_6) := (blk_cell BK115.out 6).trans rfl; have hcz18_7 : w17.cell? ⟨gb115, 7, none⟩ = some (.bool a0_7) := (blk_cell BK115.out 7).trans rfl; have hcz18_8 : w17.cell? ⟨gb115, 8, none⟩ = some (.string a0_8) := (blk_cell BK115.out 8).trans rfl; have hcz18_9 : w17.cell? ⟨gb115, 9, none⟩ = some (.bool a0_9) := (blk_cell BK115.out 9).trans rfl; have hcz18_10 : w17.cell? ⟨gb115, 10, none⟩ = some (.string a0_10) := (blk_cell BK115.out 10).trans rfl; have hcz18_11 : w17.cell? ⟨gb115, 11, none⟩ = some (.bool a0_11) := (blk_cell BK115.out 11).trans rfl; have hcz18_12 : w17.cell? ⟨gb115, 12, none⟩ = some (.string a0_12) := (blk_cell BK115.out 12).trans rfl; have hcz18_13 : w17.cell? ⟨gb115, 13, none⟩ = some (.bool a0_13) := (blk_cell BK115.out 13).trans rfl; have hcz18_14 : w17.cell? ⟨gb115, 14, none⟩ = some (.string a0_14) := (blk_cell BK115.out 14).trans rfl; have hcz18_15 : w17.cell? ⟨gb115, 15, none⟩ = some (.slice A0_15 l0_15.length c0_15) := (blk_cell BK115.out 15).trans rfl; have hcz18_16 : w17.cell? ⟨gb115, 16, none⟩ = some (.slice A0_16 l0_16.length c0_16) := (blk_cell BK115.out 16).trans rfl; have hfz18_0 := blk_frozen BK115.out 0; have hfz18_1 := blk_frozen BK115.out 1; have hfz18_2 := blk_frozen BK115.out 2; have hfz18_3 := blk_frozen BK115.out 3; have hfz18_4 := blk_frozen BK115.out 4; have hfz18_5 := blk_frozen BK115.out 5; have hfz18_6 := blk_frozen BK115.out 6; have hfz18_7 := blk_frozen BK115.out 7; have hfz18_8 := blk_frozen BK115.out 8; have hfz18_9 := blk_frozen BK115.out 9; have hfz18_10 := blk_frozen BK115.out 10; have hfz18_11 := blk_frozen BK115.out 11; have hfz18_12 := blk_frozen BK115.out 12; have hfz18_13 := blk_frozen BK115.out 13; have hfz18_14 := blk_frozen BK115.out 14; have hfz18_15 := blk_frozen BK115.out 15; have hfz18_16 := blk_frozen BK115.out 16))
          go_meet
          case rel => exact ⟨_, (((l0_15.length : Int) == 0)), (by first | rfl | (simp; done) | (simp [*]; done) | (simp [bne_nil_]; done)), H', ⟨by first | omega | exact Nat.le_refl _⟩, ⟨by (with_reducible repeat (first | refine blk_drewN ?_ _ | refine blk_drew ?_ | refine blk_alloc ?_ _)); exact BK115.out⟩, ⟨by repeat (first | (with_reducible first | exact HB.out | apply below_alloc | apply pw_below_drewN | apply below_drew1 | refine below_set ?_ GE115.out) | exact HB.out)⟩⟩
      · replace c7 := Bool.eq_false_iff.mpr c7
        subst c7
        have H1 : (spec_PyPIKnown.j0 k true a0_0 a0_1 l0_2 a0_3 a0_4 a0_5 a0_6 a0_7 a0_8 a0_9 a0_10 a0_11 a0_12 a0_13 a0_14 l0_15 l0_16) = some r := by rw [if_neg (show ¬ (false = true) by decide)] at H; exact H
        clear H
        have H := H1
        clear H1
        have H' := Aside0.mk H
        clear H
        have hcz19_0 : w3.cell? ⟨gb115, 0, none⟩ = some (.bool a0_0) := (blk_cell BK115.out 0).trans rfl
        have hcz19_1 : w3.cell? ⟨gb115, 1, none⟩ = some (.string a0_1) := (blk_cell BK115.out 1).trans rfl
        have hcz19_2 : w3.cell? ⟨gb115, 2, none⟩ = some (.slice A0_2 l0_2.length c0_2) := (blk_cell BK115.out 2).trans rfl
        have hcz19_3 : w3.cell? ⟨gb115, 3, none⟩ = some (.bool a0_3) := (blk_cell BK115.out 3).trans rfl
        have hcz19_4 : w3.cell? ⟨gb115, 4, none⟩ = some (.string a0_4) := (blk_cell BK115.out 4).trans rfl
        have hcz19_5 : w3.cell? ⟨gb115, 5, none⟩ = some (.bool a0_5) := (blk_cell BK115.out 5).trans rfl
        have hcz19_6 : w3.cell? ⟨gb115, 6, none⟩ = some (.string a0_6) := (blk_cell BK115.out 6).trans rfl
        have hcz19_7 : w3.cell? ⟨gb115, 7, none⟩ = some (.bool a0_7) := (blk_cell BK115.out 7).trans rfl
        have hcz19_8 : w3.cell? ⟨gb115, 8, none⟩ = some (.string a0_8) := (blk_cell BK115.out 8).trans rfl
        have hcz19_9 : w3.cell? ⟨gb115, 9, none⟩ = some (.bool a0_9) := (blk_cell BK115.out 9).trans rfl
        have hcz19_10 : w3.cell? ⟨gb115, 10, none⟩ = some (.string a0_10) := (blk_cell BK115.out 10).trans rfl
        have hcz19_11 : w3.cell? ⟨gb115, 11, none⟩ = some (.bool a0_11) := (blk_cell BK115.out 11).trans rfl
        have hcz19_12 : w3.cell? ⟨gb115, 12, none⟩ = some (.string a0_12) := (blk_cell BK115.out 12).trans rfl
        have hcz19_13 : w3.cell? ⟨gb115, 13, none⟩ = some (.bool a0_13) := (blk_cell BK115.out 13).trans rfl
        have hcz19_14 : w3.cell? ⟨gb115, 14, none⟩ = some (.string a0_14) := (blk_cell BK115.out 14).trans rfl
        have hcz19_15 : w3.cell? ⟨gb115, 15, none⟩ = some (.slice A0_15 l0_15.length c0_15) := (blk_cell BK115.out 15).trans rfl
        have hcz19_16 : w3.cell? ⟨gb115, 16, none⟩ = some (.slice A0_16 l0_16.length c0_16) := (blk_cell BK115.out 16).trans rfl
        have hfz19_0 := blk_frozen BK115.out 0
        have hfz19_1 := blk_frozen BK115.out 1
        have hfz19_2 := blk_frozen BK115.out 2
        have hfz19_3 := blk_frozen BK115.out 3
        have hfz19_4 := blk_frozen BK115.out 4
        have hfz19_5 := blk_frozen BK115.out 5
        have hfz19_6 := blk_frozen BK115.out 6
        have hfz19_7 := blk_frozen BK115.out 7
        have hfz19_8 := blk_frozen BK115.out 8
        have hfz19_9 := blk_frozen BK115.out 9
        have hfz19_10 := blk_frozen BK115.out 10
        have hfz19_11 := blk_frozen BK115.out 11
        have hfz19_12 := blk_frozen BK115.out 12
        have hfz19_13 := blk_frozen BK115.out 13
        have hfz19_14 := blk_frozen BK115.out 14
        have hfz19_15 := blk_frozen BK115.out 15
        have hfz19_16 := blk_frozen BK115.out 16
        go_wp2_with (first | ((with_reducible refine gate_callee (f := 21) rfl ?_); refine goesL_ (some 8) rfl rfl Tryz.func21 (by kernel_rfl) rfl #[.agg #[.bool a0_0, .string a0_1]] rfl (by (try simp only [List.map_toArray, List.map_cons, List.map_nil]); first | done | rfl | (simp only [List.length_drop, List.length_take]; rfl)) ?_; (with_reducible refine (spec_IntOK.calls k a0_0 a0_1 true _ A4.out).mono ?_); rintro e w20 ⟨rfl, hb⟩; refine ⟨_, rfl, ?_⟩; have n0_ := Aside0.mk (blk_below (g := gb115) (o := .cells #[.bool a0_0, .string a0_1, .slice A0_2 l0_2.length c0_2, .bool a0_3, .string a0_4, .bool a0_5, .string a0_6, .bool a0_7, .string a0_8, .bool a0_9, .string a0_10, .bool a0_11, .string a0_12, .bool a0_13, .string a0_14, .slice A0_15 l0_15.length c0_15, .slice A0_16 l0_16.length c0_16] 29 (0, 0)) (by (with_reducible repeat (first | refine blk_drewN ?_ _ | refine blk_drew ?_ | refine blk_alloc ?_ _)); exact BK115.out) hb); have n1_ := Aside0.mk (below_step (by repeat (first | (with_reducible first | exact HB.out | apply below_alloc | apply pw_below_drewN | apply below_drew1 | refine below_set ?_ GE115.out) | exact HB.out)) hb); clear BK115; clear HB; have BK115 := n0_; have HB := n1_; clear n0_ n1_; (try clear hb); (try clear hb2); (try clear hk); (try clear hi); have hcz21_0 : w20.cell? ⟨gb115, 0, none⟩ = some (.bool a0_0) := (blk_cell BK115.out 0).trans rfl; have hcz21_1 : w20.cell? ⟨gb115, 1, none⟩ = some (.string a0_1) := (blk_cell BK115.out 1).trans rfl; have hcz21_2 : w20.cell? ⟨gb115, 2, none⟩ = some (.slice A0_2 l0_2.length c0_2) := (blk_cell BK115.out 2).trans rfl; have hcz21_3 : w20.cell? ⟨gb115, 3, none⟩ = some (.bool a0_3) := (blk_cell BK115.out 3).trans rfl; have hcz21_4 : w20.cell? ⟨gb115, 4, none⟩ = some (.string a0_4) := (blk_cell BK115.out 4).trans rfl; have hcz21_5 : w20.cell? ⟨gb115, 5, none⟩ = some (.bool a0_5) := (blk_cell BK115.out 5).trans rfl; have hcz21_6 : w20.cell? ⟨gb115, 6, none⟩ = some (.string a0_6) := (blk_cell BK115.out 6).trans rfl; have hcz21_7 : w20.cell? ⟨gb115, 7, none⟩ = some (.bool a0_7) := (blk_cell BK115.out 7).trans rfl; have hcz21_8 : w20.cell? ⟨gb115, 8, none⟩ = some (.string a0_8) := (blk_cell BK115.out 8).trans rfl; have hcz21_9 : w20.cell? ⟨gb115, 9, none⟩ = some (.bool a0_9) := (blk_cell BK115.out 9).trans rfl; have hcz21_10 : w20.cell? ⟨gb115, 10, none⟩ = some (.string a0_10) := (blk_cell BK115.out 10).trans rfl; have hcz21_11 : w20.cell? ⟨gb115, 11, none⟩ = some (.bool a0_11) := (blk_cell BK115.out 11).trans rfl; have hcz21_12 : w20.cell? ⟨gb115, 12, none⟩ = some (.string a0_12) := (blk_cell BK115.out 12).trans rfl; have hcz21_13 : w20.cell? ⟨gb115, 13, none⟩ = some (.bool a0_13) := (blk_cell BK115.out 13).trans rfl; have hcz21_14 : w20.cell? ⟨gb115, 14, none⟩ = some (.string a0_14) := (blk_cell BK115.out 14).trans rfl; have hcz21_15 : w20.cell? ⟨gb115, 15, none⟩ = some (.slice A0_15 l0_15.length c0_15) := (blk_cell BK115.out 15).trans rfl; have hcz21_16 : w20.cell? ⟨gb115, 16, none⟩ = some (.slice A0_16 l0_16.length c0_16) := (blk_cell BK115.out 16).trans rfl; have hfz21_0 := blk_frozen BK115.out 0; have hfz21_1 := blk_frozen BK115.out 1; have hfz21_2 := blk_frozen BK115.out 2; have hfz21_3 := blk_frozen BK115.out 3; have hfz21_4 := blk_frozen BK115.out 4; have hfz21_5 := blk_frozen BK115.out 5; have hfz21_6 := blk_frozen BK115.out 6; have hfz21_7 := blk_frozen BK115.out 7; have hfz21_8 := blk_frozen BK115.out 8; have hfz21_9 := blk_frozen BK115.out 9; have hfz21_10 := blk_frozen BK115.out 10; have hfz21_11 := blk_frozen BK115.out 11; have hfz21_12 := blk_frozen BK115.out 12; have hfz21_13 := blk_frozen BK115.out 13; have hfz21_14 := blk_frozen BK115.out 14; have hfz21_15 := blk_frozen BK115.out 15; have hfz21_16 := blk_frozen BK115.out 16) | (go_at_call 22; (with_reducible refine (spec_IntsOK.calls k _ _ l0_2 false _ ?side1 ?side2 A6.out).mono ?_); (case side1 => repeat (first | exact (Kd.C_below HR0_2.out HB.out) | (with_reducible refine Kd.C_alloc ?_ _) | (with_reducible refine Kd.C_drewN ?_ _) | (with_reducible refine Kd.C_drew ?_))); (case side2 => exact HC0_2.out); rintro e w22 ⟨rfl, hb⟩; have n0_ := Aside0.mk (blk_below (g := gb115) (o := .cells #[.bool a0_0, .string a0_1, .slice A0_2 l0_2.length c0_2, .bool a0_3, .string a0_4, .bool a0_5, .string a0_6, .bool a0_7, .string a0_8, .bool a0_9, .string a0_10, .bool a0_11, .string a0_12, .bool a0_13, .string a0_14, .slice A0_15 l0_15.length c0_15, .slice A0_16 l0_16.length c0_16] 29 (0, 0)) (by (with_reducible repeat (first | refine blk_drewN ?_ _ | refine blk_drew ?_ | refine blk_alloc ?_ _)); exact BK115.out) hb); have n1_ := Aside0.mk (below_step (by repeat (first | (with_reducible first | exact HB.out | apply below_alloc | apply pw_below_drewN | apply below_drew1 | refine below_set ?_ GE115.out) | exact HB.out)) hb); clear BK115; clear HB; have BK115 := n0_; have HB := n1_; clear n0_ n1_; (try clear hb); (try clear hb2); (try clear hk); (try clear hi)))
        go_meet
        case rel => exact ⟨_, (true), (by first | rfl | (simp; done) | (simp [*]; done) | (simp [bne_nil_]; done)), H', ⟨by first | omega | exact Nat.le_refl _⟩, ⟨by (with_reducible repeat (first | refine blk_drewN ?_ _ | refine blk_drew ?_ | refine blk_alloc ?_ _)); exact BK115.out⟩, ⟨by repeat (first | (with_reducible first | exact HB.out | apply below_alloc | apply pw_below_drewN | apply below_drew1 | refine below_set ?_ GE115.out) | exact HB.out)⟩⟩
    · replace c5 := Bool.eq_false_iff.mpr c5
      subst c5
      have H1 : (spec_PyPIKnown.j0 k true a0_0 a0_1 l0_2 a0_3 a0_4 a0_5 a0_6 a0_7 a0_8 a0_9 a0_10 a0_11 a0_12 a0_13 a0_14 l0_15 l0_16) = some r := by rw [if_neg (show ¬ (false = true) by decide)] at H; exact H
      clear H
      have H := H1
      clear H1
      have H' := Aside0.mk H
      clear H
      have hcz23_0 : w3.cell? ⟨gb115, 0, none⟩ = some (.bool a0_0) := (blk_cell BK115.out 0).trans rfl
      have hcz23_1 : w3.cell? ⟨gb115, 1, none⟩ = some (.string a0_1) := (blk_cell BK115.out 1).trans rfl
      have hcz23_2 : w3.cell? ⟨gb115, 2, none⟩ = some (.slice A0_2 l0_2.length c0_2) := (blk_cell BK115.out 2).trans rfl
      have hcz23_3 : w3.cell? ⟨gb115, 3, none⟩ = some (.bool a0_3) := (blk_cell BK115.out 3).trans rfl
      have hcz23_4 : w3.cell? ⟨gb115, 4, none⟩ = some (.string a0_4) := (blk_cell BK115.out 4).trans rfl
      have hcz23_5 : w3.cell? ⟨gb115, 5, none⟩ = some (.bool a0_5) := (blk_cell BK115.out 5).trans rfl
      have hcz23_6 : w3.cell? ⟨gb115, 6, none⟩ = some (.string a0_6) := (blk_cell BK115.out 6).trans rfl
      have hcz23_7 : w3.cell? ⟨gb115, 7, none⟩ = some (.bool a0_7) := (blk_cell BK115.out 7).trans rfl
      have hcz23_8 : w3.cell? ⟨gb115, 8, none⟩ = some (.string a0_8) := (blk_cell BK115.out 8).trans rfl
      have hcz23_9 : w3.cell? ⟨gb115, 9, none⟩ = some (.bool a0_9) := (blk_cell BK115.out 9).trans rfl
      have hcz23_10 : w3.cell? ⟨gb115, 10, none⟩ = some (.string a0_10) := (blk_cell BK115.out 10).trans rfl
      have hcz23_11 : w3.cell? ⟨gb115, 11, none⟩ = some (.bool a0_11) := (blk_cell BK115.out 11).trans rfl
      have hcz23_12 : w3.cell? ⟨gb115, 12, none⟩ = some (.string a0_12) := (blk_cell BK115.out 12).trans rfl
      have hcz23_13 : w3.cell? ⟨gb115, 13, none⟩ = some (.bool a0_13) := (blk_cell BK115.out 13).trans rfl
      have hcz23_14 : w3.cell? ⟨gb115, 14, none⟩ = some (.string a0_14) := (blk_cell BK115.out 14).trans rfl
      have hcz23_15 : w3.cell? ⟨gb115, 15, none⟩ = some (.slice A0_15 l0_15.length c0_15) := (blk_cell BK115.out 15).trans rfl
      have hcz23_16 : w3.cell? ⟨gb115, 16, none⟩ = some (.slice A0_16 l0_16.length c0_16) := (blk_cell BK115.out 16).trans rfl
      have hfz23_0 := blk_frozen BK115.out 0
      have hfz23_1 := blk_frozen BK115.out 1
      have hfz23_2 := blk_frozen BK115.out 2
      have hfz23_3 := blk_frozen BK115.out 3
      have hfz23_4 := blk_frozen BK115.out 4
      have hfz23_5 := blk_frozen BK115.out 5
      have hfz23_6 := blk_frozen BK115.out 6
      have hfz23_7 := blk_frozen BK115.out 7
      have hfz23_8 := blk_frozen BK115.out 8
      have hfz23_9 := blk_frozen BK115.out 9
      have hfz23_10 := blk_frozen BK115.out 10
      have hfz23_11 := blk_frozen BK115.out 11
      have hfz23_12 := blk_frozen BK115.out 12
      have hfz23_13 := blk_frozen BK115.out 13
      have hfz23_14 := blk_frozen BK115.out 14
      have hfz23_15 := blk_frozen BK115.out 15
      have hfz23_16 := blk_frozen BK115.out 16
      go_wp2_with (first | ((with_reducible refine gate_callee (f := 21) rfl ?_); refine goesL_ (some 8) rfl rfl Tryz.func21 (by kernel_rfl) rfl #[.agg #[.bool a0_0, .string a0_1]] rfl (by (try simp only [List.map_toArray, List.map_cons, List.map_nil]); first | done | rfl | (simp only [List.length_drop, List.length_take]; rfl)) ?_; (with_reducible refine (spec_IntOK.calls k a0_0 a0_1 false _ A4.out).mono ?_); rintro e w24 ⟨rfl, hb⟩; refine ⟨_, rfl, ?_⟩; have n0_ := Aside0.mk (blk_below (g := gb115) (o := .cells #[.bool a0_0, .string a0_1, .slice A0_2 l0_2.length c0_2, .bool a0_3, .string a0_4, .bool a0_5, .string a0_6, .bool a0_7, .string a0_8, .bool a0_9, .string a0_10, .bool a0_11, .string a0_12, .bool a0_13, .string a0_14, .slice A0_15 l0_15.length c0_15, .slice A0_16 l0_16.length c0_16] 29 (0, 0)) (by (with_reducible repeat (first | refine blk_drewN ?_ _ | refine blk_drew ?_ | refine blk_alloc ?_ _)); exact BK115.out) hb); have n1_ := Aside0.mk (below_step (by repeat (first | (with_reducible first | exact HB.out | apply below_alloc | apply pw_below_drewN | apply below_drew1 | refine below_set ?_ GE115.out) | exact HB.out)) hb); clear BK115; clear HB; have BK115 := n0_; have HB := n1_; clear n0_ n1_; (try clear hb); (try clear hb2); (try clear hk); (try clear hi)))
      go_meet
      case rel => exact ⟨_, (true), (by first | rfl | (simp; done) | (simp [*]; done) | (simp [bne_nil_]; done)), H', ⟨by first | omega | exact Nat.le_refl _⟩, ⟨by (with_reducible repeat (first | refine blk_drewN ?_ _ | refine blk_drew ?_ | refine blk_alloc ?_ _)); exact BK115.out⟩, ⟨by repeat (first | (with_reducible first | exact HB.out | apply below_alloc | apply pw_below_drewN | apply below_drew1 | refine below_set ?_ GE115.out) | exact HB.out)⟩⟩
  case rest =>
    clear HC2
    try clear c1
    try clear c2
    try clear p2
    try clear c5
    try clear c7
    try clear c8
    try clear c13
    try clear c21
    try clear hcz11_0
    try clear hcz11_1
    try clear hcz11_10
    try clear hcz11_11
    try clear hcz11_12
    try clear hcz11_13
    try clear hcz11_14
    try clear hcz11_15
    try clear hcz11_16
    try clear hcz11_2
    try clear hcz11_3
    try clear hcz11_4
    try clear hcz11_5
    try clear hcz11_6
    try clear hcz11_7
    try clear hcz11_8
    try clear hcz11_9
    try clear hcz13_0
    try clear hcz13_1
    try clear hcz13_10
    try clear hcz13_11
    try clear hcz13_12
    try clear hcz13_13
    try clear hcz13_14
    try clear hcz13_15
    try clear hcz13_16
    try clear hcz13_2
    try clear hcz13_3
    try clear hcz13_4
    try clear hcz13_5
    try clear hcz13_6
    try clear hcz13_7
    try clear hcz13_8
    try clear hcz13_9
    try clear hcz14_0
    try clear hcz14_1
    try clear hcz14_10
    try clear hcz14_11
    try clear hcz14_12
    try clear hcz14_13
    try clear hcz14_14
    try clear hcz14_15
    try clear hcz14_16
    try clear hcz14_2
    try clear hcz14_3
    try clear hcz14_4
    try clear hcz14_5
    try clear hcz14_6
    try clear hcz14_7
    try clear hcz14_8
    try clear hcz14_9
    try clear hcz16_0
    try clear hcz16_1
    try clear hcz16_10
    try clear hcz16_11
    try clear hcz16_12
    try clear hcz16_13
    try clear hcz16_14
    try clear hcz16_15
    try clear hcz16_16
    try clear hcz16_2
    try clear hcz16_3
    try clear hcz16_4
    try clear hcz16_5
    try clear hcz16_6
    try clear hcz16_7
    try clear hcz16_8
    try clear hcz16_9
    try clear hcz18_0
    try clear hcz18_1
    try clear hcz18_10
    try clear hcz18_11
    try clear hcz18_12
    try clear hcz18_13
    try clear hcz18_14
    try clear hcz18_15
    try clear hcz18_16
    try clear hcz18_2
    try clear hcz18_3
    try clear hcz18_4
    try clear hcz18_5
    try clear hcz18_6
    try clear hcz18_7
    try clear hcz18_8
    try clear hcz18_9
    try clear hcz19_0
    try clear hcz19_1
    try clear hcz19_10
    try clear hcz19_11
    try clear hcz19_12
    try clear hcz19_13
    try clear hcz19_14
    try clear hcz19_15
    try clear hcz19_16
    try clear hcz19_2
    try clear hcz19_3
    try clear hcz19_4
    try clear hcz19_5
    try clear hcz19_6
    try clear hcz19_7
    try clear hcz19_8
    try clear hcz19_9
    try clear hcz21_0
    try clear hcz21_1
    try clear hcz21_10
    try clear hcz21_11
    try clear hcz21_12
    try clear hcz21_13
    try clear hcz21_14
    try clear hcz21_15
    try clear hcz21_16
    try clear hcz21_2
    try clear hcz21_3
    try clear hcz21_4
    try clear hcz21_5
    try clear hcz21_6
    try clear hcz21_7
    try clear hcz21_8
    try clear hcz21_9
    try clear hcz23_0
    try clear hcz23_1
    try clear hcz23_10
    try clear hcz23_11
    try clear hcz23_12
    try clear hcz23_13
    try clear hcz23_14
    try clear hcz23_15
    try clear hcz23_16
    try clear hcz23_2
    try clear hcz23_3
    try clear hcz23_4
    try clear hcz23_5
    try clear hcz23_6
    try clear hcz23_7
    try clear hcz23_8
    try clear hcz23_9
    try clear hcz9_0
    try clear hcz9_1
    try clear hcz9_10
    try clear hcz9_11
    try clear hcz9_12
    try clear hcz9_13
    try clear hcz9_14
    try clear hcz9_15
    try clear hcz9_16
    try clear hcz9_2
    try clear hcz9_3
    try clear hcz9_4
    try clear hcz9_5
    try clear hcz9_6
    try clear hcz9_7
    try clear hcz9_8
    try clear hcz9_9
    try clear hfz11_0
    try clear hfz11_1
    try clear hfz11_10
    try clear hfz11_11
    try clear hfz11_12
    try clear hfz11_13
    try clear hfz11_14
    try clear hfz11_15
    try clear hfz11_16
    try clear hfz11_2
    try clear hfz11_3
    try clear hfz11_4
    try clear hfz11_5
    try clear hfz11_6
    try clear hfz11_7
    try clear hfz11_8
    try clear hfz11_9
    try clear hfz13_0
    try clear hfz13_1
    try clear hfz13_10
    try clear hfz13_11
    try clear hfz13_12
    try clear hfz13_13
    try clear hfz13_14
    try clear hfz13_15
    try clear hfz13_16
    try clear hfz13_2
    try clear hfz13_3
    try clear hfz13_4
    try clear hfz13_5
    try clear hfz13_6
    try clear hfz13_7
    try clear hfz13_8
    try clear hfz13_9
    try clear hfz14_0
    try clear hfz14_1
    try clear hfz14_10
    try clear hfz14_11
    try clear hfz14_12
    try clear hfz14_13
    try clear hfz14_14
    try clear hfz14_15
    try clear hfz14_16
    try clear hfz14_2
    try clear hfz14_3
    try clear hfz14_4
    try clear hfz14_5
    try clear hfz14_6
    try clear hfz14_7
    try clear hfz14_8
    try clear hfz14_9
    try clear hfz16_0
    try clear hfz16_1
    try clear hfz16_10
    try clear hfz16_11
    try clear hfz16_12
    try clear hfz16_13
    try clear hfz16_14
    try clear hfz16_15
    try clear hfz16_16
    try clear hfz16_2
    try clear hfz16_3
    try clear hfz16_4
    try clear hfz16_5
    try clear hfz16_6
    try clear hfz16_7
    try clear hfz16_8
    try clear hfz16_9
    try clear hfz18_0
    try clear hfz18_1
    try clear hfz18_10
    try clear hfz18_11
    try clear hfz18_12
    try clear hfz18_13
    try clear hfz18_14
    try clear hfz18_15
    try clear hfz18_16
    try clear hfz18_2
    try clear hfz18_3
    try clear hfz18_4
    try clear hfz18_5
    try clear hfz18_6
    try clear hfz18_7
    try clear hfz18_8
    try clear hfz18_9
    try clear hfz19_0
    try clear hfz19_1
    try clear hfz19_10
    try clear hfz19_11
    try clear hfz19_12
    try clear hfz19_13
    try clear hfz19_14
    try clear hfz19_15
    try clear hfz19_16
    try clear hfz19_2
    try clear hfz19_3
    try clear hfz19_4
    try clear hfz19_5
    try clear hfz19_6
    try clear hfz19_7
    try clear hfz19_8
    try clear hfz19_9
    try clear hfz21_0
    try clear hfz21_1
    try clear hfz21_10
    try clear hfz21_11
    try clear hfz21_12
    try clear hfz21_13
    try clear hfz21_14
    try clear hfz21_15
    try clear hfz21_16
    try clear hfz21_2
    try clear hfz21_3
    try clear hfz21_4
    try clear hfz21_5
    try clear hfz21_6
    try clear hfz21_7
    try clear hfz21_8
    try clear hfz21_9
    try clear hfz23_0
    try clear hfz23_1
    try clear hfz23_10
    try clear hfz23_11
    try clear hfz23_12
    try clear hfz23_13
    try clear hfz23_14
    try clear hfz23_15
    try clear hfz23_16
    try clear hfz23_2
    try clear hfz23_3
    try clear hfz23_4
    try clear hfz23_5
    try clear hfz23_6
    try clear hfz23_7
    try clear hfz23_8
    try clear hfz23_9
    try clear hfz9_0
    try clear hfz9_1
    try clear hfz9_10
    try clear hfz9_11
    try clear hfz9_12
    try clear hfz9_13
    try clear hfz9_14
    try clear hfz9_15
    try clear hfz9_16
    try clear hfz9_2
    try clear hfz9_3
    try clear hfz9_4
    try clear hfz9_5
    try clear hfz9_6
    try clear hfz9_7
    try clear hfz9_8
    try clear hfz9_9
    obtain ⟨kq, x26_1, rfl, HA, HJ1, BK115, HB⟩ := hcut
    cases kq with
    | zero => exact absurd HA.out (by simp [spec_PyPIKnown.j0])
    | succ kj1 =>
      have H := HA.out
      clear HA
      simp only [spec_PyPIKnown.j0] at H
      by_cases c25 : x26_1 = true
      · subst c25
        have H1 : (some false) = some r := by rw [if_pos rfl] at H; exact H
        clear H
        have H := H1
        clear H1
        obtain rfl := Option.some.inj H
        go_wp2
        go_ret
        exact ⟨by first | rfl | (simp [errW_none, errW_some] <;> rfl) | (simp [*, errW_none, errW_some] <;> rfl) | (simp [bne_nil_]; done), by repeat (first | (with_reducible first | exact HB.out | apply below_alloc | apply pw_below_drewN | apply below_drew1 | refine below_set ?_ GE115.out) | exact HB.out)⟩
      · replace c25 := Bool.eq_false_iff.mpr c25
        subst c25
        have H1 : (spec_PyPIKnown.l0 kj1 0 a0_0 a0_1 l0_2 a0_3 a0_4 a0_5 a0_6 a0_7 a0_8 a0_9 a0_10 a0_11 a0_12 a0_13 a0_14 l0_15 l0_16) = some r := by rw [if_neg (show ¬ (false = true) by decide)] at H; exact H
        clear H
        have H := H1
        clear H1
        have H' := Aside0.mk H
        clear H
        go_wp2
        go_loopg [3] kj1 (fun kq v3 w' => ∃ (x3_2 : Int), v3 = .int .i64 x3_2 ∧ Aside0 (spec_PyPIKnown.l0 kq x3_2 a0_0 a0_1 l0_2 a0_3 a0_4 a0_5 a0_6 a0_7 a0_8 a0_9 a0_10 a0_11 a0_12 a0_13 a0_14 l0_15 l0_16 = some r) ∧ Aside0 (kq ≤ kj1) ∧ Aside0 (w'.heap[gb115]? = some (.cells #[.bool a0_0, .string a0_1, (.slice A0_2 l0_2.length c0_2), .bool a0_3, .string a0_4, .bool a0_5, .string a0_6, .bool a0_7, .string a0_8, .bool a0_9, .string a0_10, .bool a0_11, .string a0_12, .bool a0_13, .string a0_14, (.slice A0_15 l0_15.length c0_15), (.slice A0_16 l0_16.length c0_16)] 29 (0, 0))) ∧ Aside0 (Below w.heap.size w w'))
        case atStart => exact ⟨(0), (by first | rfl | (simp; done) | (simp [*]; done) | (simp [bne_nil_]; done)), H', ⟨Nat.le_refl _⟩, ⟨by (with_reducible repeat (first | refine blk_drewN ?_ _ | refine blk_drew ?_ | refine blk_alloc ?_ _)); exact BK115.out⟩, ⟨by repeat (first | (with_reducible first | exact HB.out | apply below_alloc | apply pw_below_drewN | apply below_drew1 | refine below_set ?_ GE115.out) | exact HB.out)⟩⟩
        case round =>
          clear H'
          try clear c1
          try clear c2
          try clear p2
          try clear c5
          try clear c7
          try clear c8
          try clear c13
          try clear c21
          try clear c25
          try clear hcz11_0
          try clear hcz11_1
          try clear hcz11_10
          try clear hcz11_11
          try clear hcz11_12
          try clear hcz11_13
          try clear hcz11_14
          try clear hcz11_15
          try clear hcz11_16
          try clear hcz11_2
          try clear hcz11_3
          try clear hcz11_4
          try clear hcz11_5
          try clear hcz11_6
          try clear hcz11_7
          try clear hcz11_8
          try clear hcz11_9
          try clear hcz13_0
          try clear hcz13_1
          try clear hcz13_10
          try clear hcz13_11
          try clear hcz13_12
          try clear hcz13_13
          try clear hcz13_14
          try clear hcz13_15
          try clear hcz13_16
          try clear hcz13_2
          try clear hcz13_3
          try clear hcz13_4
          try clear hcz13_5
          try clear hcz13_6
          try clear hcz13_7
          try clear hcz13_8
          try clear hcz13_9
          try clear hcz14_0
          try clear hcz14_1
          try clear hcz14_10
          try clear hcz14_11
          try clear hcz14_12
          try clear hcz14_13
          try clear hcz14_14
          try clear hcz14_15
          try clear hcz14_16
          try clear hcz14_2
          try clear hcz14_3
          try clear hcz14_4
          try clear hcz14_5
          try clear hcz14_6
          try clear hcz14_7
          try clear hcz14_8
          try clear hcz14_9
          try clear hcz16_0
          try clear hcz16_1
          try clear hcz16_10
          try clear hcz16_11
          try clear hcz16_12
          try clear hcz16_13
          try clear hcz16_14
          try clear hcz16_15
          try clear hcz16_16
          try clear hcz16_2
          try clear hcz16_3
          try clear hcz16_4
          try clear hcz16_5
          try clear hcz16_6
          try clear hcz16_7
          try clear hcz16_8
          try clear hcz16_9
          try clear hcz18_0
          try clear hcz18_1
          try clear hcz18_10
          try clear hcz18_11
          try clear hcz18_12
          try clear hcz18_13
          try clear hcz18_14
          try clear hcz18_15
          try clear hcz18_16
          try clear hcz18_2
          try clear hcz18_3
          try clear hcz18_4
          try clear hcz18_5
          try clear hcz18_6
          try clear hcz18_7
          try clear hcz18_8
          try clear hcz18_9
          try clear hcz19_0
          try clear hcz19_1
          try clear hcz19_10
          try clear hcz19_11
          try clear hcz19_12
          try clear hcz19_13
          try clear hcz19_14
          try clear hcz19_15
          try clear hcz19_16
          try clear hcz19_2
          try clear hcz19_3
          try clear hcz19_4
          try clear hcz19_5
          try clear hcz19_6
          try clear hcz19_7
          try clear hcz19_8
          try clear hcz19_9
          try clear hcz21_0
          try clear hcz21_1
          try clear hcz21_10
          try clear hcz21_11
          try clear hcz21_12
          try clear hcz21_13
          try clear hcz21_14
          try clear hcz21_15
          try clear hcz21_16
          try clear hcz21_2
          try clear hcz21_3
          try clear hcz21_4
          try clear hcz21_5
          try clear hcz21_6
          try clear hcz21_7
          try clear hcz21_8
          try clear hcz21_9
          try clear hcz23_0
          try clear hcz23_1
          try clear hcz23_10
          try clear hcz23_11
          try clear hcz23_12
          try clear hcz23_13
          try clear hcz23_14
          try clear hcz23_15
          try clear hcz23_16
          try clear hcz23_2
          try clear hcz23_3
          try clear hcz23_4
          try clear hcz23_5
          try clear hcz23_6
          try clear hcz23_7
          try clear hcz23_8
          try clear hcz23_9
          try clear hcz9_0
          try clear hcz9_1
          try clear hcz9_10
          try clear hcz9_11
          try clear hcz9_12
          try clear hcz9_13
          try clear hcz9_14
          try clear hcz9_15
          try clear hcz9_16
          try clear hcz9_2
          try clear hcz9_3
          try clear hcz9_4
          try clear hcz9_5
          try clear hcz9_6
          try clear hcz9_7
          try clear hcz9_8
          try clear hcz9_9
          try clear hfz11_0
          try clear hfz11_1
          try clear hfz11_10
          try clear hfz11_11
          try clear hfz11_12
          try clear hfz11_13
          try clear hfz11_14
          try clear hfz11_15
          try clear hfz11_16
          try clear hfz11_2
          try clear hfz11_3
          try clear hfz11_4
          try clear hfz11_5
          try clear hfz11_6
          try clear hfz11_7
          try clear hfz11_8
          try clear hfz11_9
          try clear hfz13_0
          try clear hfz13_1
          try clear hfz13_10
          try clear hfz13_11
          try clear hfz13_12
          try clear hfz13_13
          try clear hfz13_14
          try clear hfz13_15
          try clear hfz13_16
          try clear hfz13_2
          try clear hfz13_3
          try clear hfz13_4
          try clear hfz13_5
          try clear hfz13_6
          try clear hfz13_7
          try clear hfz13_8
          try clear hfz13_9
          try clear hfz14_0
          try clear hfz14_1
          try clear hfz14_10
          try clear hfz14_11
          try clear hfz14_12
          try clear hfz14_13
          try clear hfz14_14
          try clear hfz14_15
          try clear hfz14_16
          try clear hfz14_2
          try clear hfz14_3
          try clear hfz14_4
          try clear hfz14_5
          try clear hfz14_6
          try clear hfz14_7
          try clear hfz14_8
          try clear hfz14_9
          try clear hfz16_0
          try clear hfz16_1
          try clear hfz16_10
          try clear hfz16_11
          try clear hfz16_12
          try clear hfz16_13
          try clear hfz16_14
          try clear hfz16_15
          try clear hfz16_16
          try clear hfz16_2
          try clear hfz16_3
          try clear hfz16_4
          try clear hfz16_5
          try clear hfz16_6
          try clear hfz16_7
          try clear hfz16_8
          try clear hfz16_9
          try clear hfz18_0
          try clear hfz18_1
          try clear hfz18_10
          try clear hfz18_11
          try clear hfz18_12
          try clear hfz18_13
          try clear hfz18_14
          try clear hfz18_15
          try clear hfz18_16
          try clear hfz18_2
          try clear hfz18_3
          try clear hfz18_4
          try clear hfz18_5
          try clear hfz18_6
          try clear hfz18_7
          try clear hfz18_8
          try clear hfz18_9
          try clear hfz19_0
          try clear hfz19_1
          try clear hfz19_10
          try clear hfz19_11
          try clear hfz19_12
          try clear hfz19_13
          try clear hfz19_14
          try clear hfz19_15
          try clear hfz19_16
          try clear hfz19_2
          try clear hfz19_3
          try clear hfz19_4
          try clear hfz19_5
          try clear hfz19_6
          try clear hfz19_7
          try clear hfz19_8
          try clear hfz19_9
          try clear hfz21_0
          try clear hfz21_1
          try clear hfz21_10
          try clear hfz21_11
          try clear hfz21_12
          try clear hfz21_13
          try clear hfz21_14
          try clear hfz21_15
          try clear hfz21_16
          try clear hfz21_2
          try clear hfz21_3
          try clear hfz21_4
          try clear hfz21_5
          try clear hfz21_6
          try clear hfz21_7
          try clear hfz21_8
          try clear hfz21_9
          try clear hfz23_0
          try clear hfz23_1
          try clear hfz23_10
          try clear hfz23_11
          try clear hfz23_12
          try clear hfz23_13
          try clear hfz23_14
          try clear hfz23_15
          try clear hfz23_16
          try clear hfz23_2
          try clear hfz23_3
          try clear hfz23_4
          try clear hfz23_5
          try clear hfz23_6
          try clear hfz23_7
          try clear hfz23_8
          try clear hfz23_9
          try clear hfz9_0
          try clear hfz9_1
          try clear hfz9_10
          try clear hfz9_11
          try clear hfz9_12
          try clear hfz9_13
          try clear hfz9_14
          try clear hfz9_15
          try clear hfz9_16
          try clear hfz9_2
          try clear hfz9_3
          try clear hfz9_4
          try clear hfz9_5
          try clear hfz9_6
          try clear hfz9_7
          try clear hfz9_8
          try clear hfz9_9
          try clear p2
          obtain ⟨x3_2, rfl, HA, HK2, BK115, HB⟩ := hrel
          cases gk with
          | zero => exact absurd HA.out (by simp [spec_PyPIKnown.l0])
          | succ k2 =>
            have H := HA.out
            clear HA
            simp only [spec_PyPIKnown.l0] at H
            by_cases c26 : x3_2 < (l0_2.length : Int)
            · rw [if_pos c26] at H
              have c26b0 : decide (x3_2 < (l0_2.length : Int)) = true := decide_eq_true c26
              clear c26
              by_cases c27 : 0 ≤ x3_2
              · rw [if_pos c27] at H
                have c27b0 : decide (0 ≤ x3_2) = true := decide_eq_true c27
                clear c27
                obtain ⟨bq28, hbq28⟩ : ∃ b_ : Bool, b_ = ((rd_T23 l0_2 x3_2).f0) := ⟨_, rfl⟩
                replace H : (if bq28 = true then (some false) else (spec_PyPIKnown.l0 k2 (wrap64 (x3_2 + 1)) a0_0 a0_1 l0_2 a0_3 a0_4 a0_5 a0_6 a0_7 a0_8 a0_9 a0_10 a0_11 a0_12 a0_13 a0_14 l0_15 l0_16)) = some r := by rw [← hbq28] at H; exact H
                have Nbq28 := Aside0.mk hbq28
                clear hbq28
                by_cases c29 : bq28 = true
                · subst c29
                  have H1 : (some false) = some r := by rw [if_pos rfl] at H; exact H
                  clear H
                  have H := H1
                  clear H1
                  obtain rfl := Option.some.inj H
                  have hcz30_0 : wr.cell? ⟨gb115, 0, none⟩ = some (.bool a0_0) := (blk_cell BK115.out 0).trans rfl
                  have hcz30_1 : wr.cell? ⟨gb115, 1, none⟩ = some (.string a0_1) := (blk_cell BK115.out 1).trans rfl
                  have hcz30_2 : wr.cell? ⟨gb115, 2, none⟩ = some (.slice A0_2 l0_2.length c0_2) := (blk_cell BK115.out 2).trans rfl
                  have hcz30_3 : wr.cell? ⟨gb115, 3, none⟩ = some (.bool a0_3) := (blk_cell BK115.out 3).trans rfl
                  have hcz30_4 : wr.cell? ⟨gb115, 4, none⟩ = some (.string a0_4) := (blk_cell BK115.out 4).trans rfl
                  have hcz30_5 : wr.cell? ⟨gb115, 5, none⟩ = some (.bool a0_5) := (blk_cell BK115.out 5).trans rfl
                  have hcz30_6 : wr.cell? ⟨gb115, 6, none⟩ = some (.string a0_6) := (blk_cell BK115.out 6).trans rfl
                  have hcz30_7 : wr.cell? ⟨gb115, 7, none⟩ = some (.bool a0_7) := (blk_cell BK115.out 7).trans rfl
                  have hcz30_8 : wr.cell? ⟨gb115, 8, none⟩ = some (.string a0_8) := (blk_cell BK115.out 8).trans rfl
                  have hcz30_9 : wr.cell? ⟨gb115, 9, none⟩ = some (.bool a0_9) := (blk_cell BK115.out 9).trans rfl
                  have hcz30_10 : wr.cell? ⟨gb115, 10, none⟩ = some (.string a0_10) := (blk_cell BK115.out 10).trans rfl
                  have hcz30_11 : wr.cell? ⟨gb115, 11, none⟩ = some (.bool a0_11) := (blk_cell BK115.out 11).trans rfl
                  have hcz30_12 : wr.cell? ⟨gb115, 12, none⟩ = some (.string a0_12) := (blk_cell BK115.out 12).trans rfl
                  have hcz30_13 : wr.cell? ⟨gb115, 13, none⟩ = some (.bool a0_13) := (blk_cell BK115.out 13).trans rfl
                  have hcz30_14 : wr.cell? ⟨gb115, 14, none⟩ = some (.string a0_14) := (blk_cell BK115.out 14).trans rfl
                  have hcz30_15 : wr.cell? ⟨gb115, 15, none⟩ = some (.slice A0_15 l0_15.length c0_15) := (blk_cell BK115.out 15).trans rfl
                  have hcz30_16 : wr.cell? ⟨gb115, 16, none⟩ = some (.slice A0_16 l0_16.length c0_16) := (blk_cell BK115.out 16).trans rfl
                  have hfz30_0 := blk_frozen BK115.out 0
                  have hfz30_1 := blk_frozen BK115.out 1
                  have hfz30_2 := blk_frozen BK115.out 2
                  have hfz30_3 := blk_frozen BK115.out 3
                  have hfz30_4 := blk_frozen BK115.out 4
                  have hfz30_5 := blk_frozen BK115.out 5
                  have hfz30_6 := blk_frozen BK115.out 6
                  have hfz30_7 := blk_frozen BK115.out 7
                  have hfz30_8 := blk_frozen BK115.out 8
                  have hfz30_9 := blk_frozen BK115.out 9
                  have hfz30_10 := blk_frozen BK115.out 10
                  have hfz30_11 := blk_frozen BK115.out 11
                  have hfz30_12 := blk_frozen BK115.out 12
                  have hfz30_13 := blk_frozen BK115.out 13
                  have hfz30_14 := blk_frozen BK115.out 14
                  have hfz30_15 := blk_frozen BK115.out 15
                  have hfz30_16 := blk_frozen BK115.out 16
                  have p118 : 0 ≤ (x3_2 : Int) := of_decide_eq_true (by first | (with_reducible assumption) | assumption)
                  have q118 : x3_2 < (l0_2.length : Int) := of_decide_eq_true (by first | (with_reducible assumption) | assumption)
                  obtain ⟨ad118, e118, hx118_0, hx118_1⟩ := at_T23 HR0_2.out x3_2 p118 q118
                  (try rw [← Nbq28.out] at hx118_0)
                  cases e118
                  replace hx118_0 := (HB.out.cell (World.block_lt_of_cell? w _ hx118_0)).trans hx118_0
                  replace hx118_1 := (HB.out.cell (World.block_lt_of_cell? w _ hx118_1)).trans hx118_1
                  replace p118 := eq_true p118
                  replace q118 := eq_true q118
                  go_wp2
                  go_ret
                  exact ⟨by first | rfl | (simp [errW_none, errW_some] <;> rfl) | (simp [*, errW_none, errW_some] <;> rfl) | (simp [bne_nil_]; done), by repeat (first | (with_reducible first | exact HB.out | apply below_alloc | apply pw_below_drewN | apply below_drew1 | refine below_set ?_ GE115.out) | exact HB.out)⟩
                · replace c29 := Bool.eq_false_iff.mpr c29
                  subst c29
                  have H1 : (spec_PyPIKnown.l0 k2 (wrap64 (x3_2 + 1)) a0_0 a0_1 l0_2 a0_3 a0_4 a0_5 a0_6 a0_7 a0_8 a0_9 a0_10 a0_11 a0_12 a0_13 a0_14 l0_15 l0_16) = some r := by rw [if_neg (show ¬ (false = true) by decide)] at H; exact H
                  clear H
                  have H := H1
                  clear H1
                  have H' := Aside0.mk H
                  clear H
                  have hcz31_0 : wr.cell? ⟨gb115, 0, none⟩ = some (.bool a0_0) := (blk_cell BK115.out 0).trans rfl
                  have hcz31_1 : wr.cell? ⟨gb115, 1, none⟩ = some (.string a0_1) := (blk_cell BK115.out 1).trans rfl
                  have hcz31_2 : wr.cell? ⟨gb115, 2, none⟩ = some (.slice A0_2 l0_2.length c0_2) := (blk_cell BK115.out 2).trans rfl
                  have hcz31_3 : wr.cell? ⟨gb115, 3, none⟩ = some (.bool a0_3) := (blk_cell BK115.out 3).trans rfl
                  have hcz31_4 : wr.cell? ⟨gb115, 4, none⟩ = some (.string a0_4) := (blk_cell BK115.out 4).trans rfl
                  have hcz31_5 : wr.cell? ⟨gb115, 5, none⟩ = some (.bool a0_5) := (blk_cell BK115.out 5).trans rfl
                  have hcz31_6 : wr.cell? ⟨gb115, 6, none⟩ = some (.string a0_6) := (blk_cell BK115.out 6).trans rfl
                  have hcz31_7 : wr.cell? ⟨gb115, 7, none⟩ = some (.bool a0_7) := (blk_cell BK115.out 7).trans rfl
                  have hcz31_8 : wr.cell? ⟨gb115, 8, none⟩ = some (.string a0_8) := (blk_cell BK115.out 8).trans rfl
                  have hcz31_9 : wr.cell? ⟨gb115, 9, none⟩ = some (.bool a0_9) := (blk_cell BK115.out 9).trans rfl
                  have hcz31_10 : wr.cell? ⟨gb115, 10, none⟩ = some (.string a0_10) := (blk_cell BK115.out 10).trans rfl
                  have hcz31_11 : wr.cell? ⟨gb115, 11, none⟩ = some (.bool a0_11) := (blk_cell BK115.out 11).trans rfl
                  have hcz31_12 : wr.cell? ⟨gb115, 12, none⟩ = some (.string a0_12) := (blk_cell BK115.out 12).trans rfl
                  have hcz31_13 : wr.cell? ⟨gb115, 13, none⟩ = some (.bool a0_13) := (blk_cell BK115.out 13).trans rfl
                  have hcz31_14 : wr.cell? ⟨gb115, 14, none⟩ = some (.string a0_14) := (blk_cell BK115.out 14).trans rfl
                  have hcz31_15 : wr.cell? ⟨gb115, 15, none⟩ = some (.slice A0_15 l0_15.length c0_15) := (blk_cell BK115.out 15).trans rfl
                  have hcz31_16 : wr.cell? ⟨gb115, 16, none⟩ = some (.slice A0_16 l0_16.length c0_16) := (blk_cell BK115.out 16).trans rfl
                  have hfz31_0 := blk_frozen BK115.out 0
                  have hfz31_1 := blk_frozen BK115.out 1
                  have hfz31_2 := blk_frozen BK115.out 2
                  have hfz31_3 := blk_frozen BK115.out 3
                  have hfz31_4 := blk_frozen BK115.out 4
                  have hfz31_5 := blk_frozen BK115.out 5
                  have hfz31_6 := blk_frozen BK115.out 6
                  have hfz31_7 := blk_frozen BK115.out 7
                  have hfz31_8 := blk_frozen BK115.out 8
                  have hfz31_9 := blk_frozen BK115.out 9
                  have hfz31_10 := blk_frozen BK115.out 10
                  have hfz31_11 := blk_frozen BK115.out 11
                  have hfz31_12 := blk_frozen BK115.out 12
                  have hfz31_13 := blk_frozen BK115.out 13
                  have hfz31_14 := blk_frozen BK115.out 14
                  have hfz31_15 := blk_frozen BK115.out 15
                  have hfz31_16 := blk_frozen BK115.out 16
                  have p118 : 0 ≤ (x3_2 : Int) := of_decide_eq_true (by first | (with_reducible assumption) | assumption)
                  have q118 : x3_2 < (l0_2.length : Int) := of_decide_eq_true (by first | (with_reducible assumption) | assumption)
                  obtain ⟨ad118, e118, hx118_0, hx118_1⟩ := at_T23 HR0_2.out x3_2 p118 q118
                  (try rw [← Nbq28.out] at hx118_0)
                  cases e118
                  replace hx118_0 := (HB.out.cell (World.block_lt_of_cell? w _ hx118_0)).trans hx118_0
                  replace hx118_1 := (HB.out.cell (World.block_lt_of_cell? w _ hx118_1)).trans hx118_1
                  replace p118 := eq_true p118
                  replace q118 := eq_true q118
                  go_wp2
                  go_roundg k2
                  case measure => have := HJ1.out; have := HK2.out; omega
                  case rel => exact ⟨(wrap64 (x3_2 + 1)), (by first | rfl | (simp; done) | (simp [*]; done) | (simp [bne_nil_]; done)), H', ⟨by have := HJ1.out; have := HK2.out; omega⟩, ⟨by (with_reducible repeat (first | refine blk_drewN ?_ _ | refine blk_drew ?_ | refine blk_alloc ?_ _)); exact BK115.out⟩, ⟨by repeat (first | (with_reducible first | exact HB.out | apply below_alloc | apply pw_below_drewN | apply below_drew1 | refine below_set ?_ GE115.out) | exact HB.out)⟩⟩
              · rw [if_neg c27] at H
                exact absurd H (by simp)
            · rw [if_neg c26] at H
              have c26b0 : decide (x3_2 < (l0_2.length : Int)) = false := decide_eq_false c26
              clear c26
              have H' := Aside0.mk H
              clear H
              have hcz32_0 : wr.cell? ⟨gb115, 0, none⟩ = some (.bool a0_0) := (blk_cell BK115.out 0).trans rfl
              have hcz32_1 : wr.cell? ⟨gb115, 1, none⟩ = some (.string a0_1) := (blk_cell BK115.out 1).trans rfl
              have hcz32_2 : wr.cell? ⟨gb115, 2, none⟩ = some (.slice A0_2 l0_2.length c0_2) := (blk_cell BK115.out 2).trans rfl
              have hcz32_3 : wr.cell? ⟨gb115, 3, none⟩ = some (.bool a0_3) := (blk_cell BK115.out 3).trans rfl
              have hcz32_4 : wr.cell? ⟨gb115, 4, none⟩ = some (.string a0_4) := (blk_cell BK115.out 4).trans rfl
              have hcz32_5 : wr.cell? ⟨gb115, 5, none⟩ = some (.bool a0_5) := (blk_cell BK115.out 5).trans rfl
              have hcz32_6 : wr.cell? ⟨gb115, 6, none⟩ = some (.string a0_6) := (blk_cell BK115.out 6).trans rfl
              have hcz32_7 : wr.cell? ⟨gb115, 7, none⟩ = some (.bool a0_7) := (blk_cell BK115.out 7).trans rfl
              have hcz32_8 : wr.cell? ⟨gb115, 8, none⟩ = some (.string a0_8) := (blk_cell BK115.out 8).trans rfl
              have hcz32_9 : wr.cell? ⟨gb115, 9, none⟩ = some (.bool a0_9) := (blk_cell BK115.out 9).trans rfl
              have hcz32_10 : wr.cell? ⟨gb115, 10, none⟩ = some (.string a0_10) := (blk_cell BK115.out 10).trans rfl
              have hcz32_11 : wr.cell? ⟨gb115, 11, none⟩ = some (.bool a0_11) := (blk_cell BK115.out 11).trans rfl
              have hcz32_12 : wr.cell? ⟨gb115, 12, none⟩ = some (.string a0_12) := (blk_cell BK115.out 12).trans rfl
              have hcz32_13 : wr.cell? ⟨gb115, 13, none⟩ = some (.bool a0_13) := (blk_cell BK115.out 13).trans rfl
              have hcz32_14 : wr.cell? ⟨gb115, 14, none⟩ = some (.string a0_14) := (blk_cell BK115.out 14).trans rfl
              have hcz32_15 : wr.cell? ⟨gb115, 15, none⟩ = some (.slice A0_15 l0_15.length c0_15) := (blk_cell BK115.out 15).trans rfl
              have hcz32_16 : wr.cell? ⟨gb115, 16, none⟩ = some (.slice A0_16 l0_16.length c0_16) := (blk_cell BK115.out 16).trans rfl
              have hfz32_0 := blk_frozen BK115.out 0
              have hfz32_1 := blk_frozen BK115.out 1
              have hfz32_2 := blk_frozen BK115.out 2
              have hfz32_3 := blk_frozen BK115.out 3
              have hfz32_4 := blk_frozen BK115.out 4
              have hfz32_5 := blk_frozen BK115.out 5
              have hfz32_6 := blk_frozen BK115.out 6
              have hfz32_7 := blk_frozen BK115.out 7
              have hfz32_8 := blk_frozen BK115.out 8
              have hfz32_9 := blk_frozen BK115.out 9
              have hfz32_10 := blk_frozen BK115.out 10
              have hfz32_11 := blk_frozen BK115.out 11
              have hfz32_12 := blk_frozen BK115.out 12
              have hfz32_13 := blk_frozen BK115.out 13
              have hfz32_14 := blk_frozen BK115.out 14
              have hfz32_15 := blk_frozen BK115.out 15
              have hfz32_16 := blk_frozen BK115.out 16
              go_wp2
              go_loopg [4] k2 (fun kq v4 w' => ∃ (x4_3 : Int), v4 = .int .i64 x4_3 ∧ Aside0 (spec_PyPIKnown.l1 kq x4_3 a0_0 a0_1 l0_2 a0_3 a0_4 a0_5 a0_6 a0_7 a0_8 a0_9 a0_10 a0_11 a0_12 a0_13 a0_14 l0_15 l0_16 = some r) ∧ Aside0 (kq ≤ k2) ∧ Aside0 (w'.heap[gb115]? = some (.cells #[.bool a0_0, .string a0_1, (.slice A0_2 l0_2.length c0_2), .bool a0_3, .string a0_4, .bool a0_5, .string a0_6, .bool a0_7, .string a0_8, .bool a0_9, .string a0_10, .bool a0_11, .string a0_12, .bool a0_13, .string a0_14, (.slice A0_15 l0_15.length c0_15), (.slice A0_16 l0_16.length c0_16)] 29 (0, 0))) ∧ Aside0 (Below w.heap.size w w'))
              case atStart => exact ⟨(0), (by first | rfl | (simp; done) | (simp [*]; done) | (simp [bne_nil_]; done)), H', ⟨Nat.le_refl _⟩, ⟨by (with_reducible repeat (first | refine blk_drewN ?_ _ | refine blk_drew ?_ | refine blk_alloc ?_ _)); exact BK115.out⟩, ⟨by repeat (first | (with_reducible first | exact HB.out | apply below_alloc | apply pw_below_drewN | apply below_drew1 | refine below_set ?_ GE115.out) | exact HB.out)⟩⟩
              case round =>
                clear H'
                try clear c1
                try clear p1
                try clear q1
                try clear hx1
                try clear c2
                try clear p2
                try clear q2
                try clear c5
                try clear p6
                try clear c7
                try clear c8
                try clear p11
                try clear q11
                try clear hx11
                try clear c13
                try clear c21
                try clear c25
                try clear c26
                try clear c26b0
                try clear c27
                try clear c27b0
                try clear q28
                try clear c29
                try clear hcz11_0
                try clear hcz11_1
                try clear hcz11_10
                try clear hcz11_11
                try clear hcz11_12
                try clear hcz11_13
                try clear hcz11_14
                try clear hcz11_15
                try clear hcz11_16
                try clear hcz11_2
                try clear hcz11_3
                try clear hcz11_4
                try clear hcz11_5
                try clear hcz11_6
                try clear hcz11_7
                try clear hcz11_8
                try clear hcz11_9
                try clear hcz13_0
                try clear hcz13_1
                try clear hcz13_10
                try clear hcz13_11
                try clear hcz13_12
                try clear hcz13_13
                try clear hcz13_14
                try clear hcz13_15
                try clear hcz13_16
                try clear hcz13_2
                try clear hcz13_3
                try clear hcz13_4
                try clear hcz13_5
                try clear hcz13_6
                try clear hcz13_7
                try clear hcz13_8
                try clear hcz13_9
                try clear hcz14_0
                try clear hcz14_1
                try clear hcz14_10
                try clear hcz14_11
                try clear hcz14_12
                try clear hcz14_13
                try clear hcz14_14
                try clear hcz14_15
                try clear hcz14_16
                try clear hcz14_2
                try clear hcz14_3
                try clear hcz14_4
                try clear hcz14_5
                try clear hcz14_6
                try clear hcz14_7
                try clear hcz14_8
                try clear hcz14_9
                try clear hcz16_0
                try clear hcz16_1
                try clear hcz16_10
                try clear hcz16_11
                try clear hcz16_12
                try clear hcz16_13
                try clear hcz16_14
                try clear hcz16_15
                try clear hcz16_16
                try clear hcz16_2
                try clear hcz16_3
                try clear hcz16_4
                try clear hcz16_5
                try clear hcz16_6
                try clear hcz16_7
                try clear hcz16_8
                try clear hcz16_9
                try clear hcz18_0
                try clear hcz18_1
                try clear hcz18_10
                try clear hcz18_11
                try clear hcz18_12
                try clear hcz18_13
                try clear hcz18_14
                try clear hcz18_15
                try clear hcz18_16
                try clear hcz18_2
                try clear hcz18_3
                try clear hcz18_4
                try clear hcz18_5
                try clear hcz18_6
                try clear hcz18_7
                try clear hcz18_8
                try clear hcz18_9
                try clear hcz19_0
                try clear hcz19_1
                try clear hcz19_10
                try clear hcz19_11
                try clear hcz19_12
                try clear hcz19_13
                try clear hcz19_14
                try clear hcz19_15
                try clear hcz19_16
                try clear hcz19_2
                try clear hcz19_3
                try clear hcz19_4
                try clear hcz19_5
                try clear hcz19_6
                try clear hcz19_7
                try clear hcz19_8
                try clear hcz19_9
                try clear hcz21_0
                try clear hcz21_1
                try clear hcz21_10
                try clear hcz21_11
                try clear hcz21_12
                try clear hcz21_13
                try clear hcz21_14
                try clear hcz21_15
                try clear hcz21_16
                try clear hcz21_2
                try clear hcz21_3
                try clear hcz21_4
                try clear hcz21_5
                try clear hcz21_6
                try clear hcz21_7
                try clear hcz21_8
                try clear hcz21_9
                try clear hcz23_0
                try clear hcz23_1
                try clear hcz23_10
                try clear hcz23_11
                try clear hcz23_12
                try clear hcz23_13
                try clear hcz23_14
                try clear hcz23_15
                try clear hcz23_16
                try clear hcz23_2
                try clear hcz23_3
                try clear hcz23_4
                try clear hcz23_5
                try clear hcz23_6
                try clear hcz23_7
                try clear hcz23_8
                try clear hcz23_9
                try clear hcz30_0
                try clear hcz30_1
                try clear hcz30_10
                try clear hcz30_11
                try clear hcz30_12
                try clear hcz30_13
                try clear hcz30_14
                try clear hcz30_15
                try clear hcz30_16
                try clear hcz30_2
                try clear hcz30_3
                try clear hcz30_4
                try clear hcz30_5
                try clear hcz30_6
                try clear hcz30_7
                try clear hcz30_8
                try clear hcz30_9
                try clear hcz31_0
                try clear hcz31_1
                try clear hcz31_10
                try clear hcz31_11
                try clear hcz31_12
                try clear hcz31_13
                try clear hcz31_14
                try clear hcz31_15
                try clear hcz31_16
                try clear hcz31_2
                try clear hcz31_3
                try clear hcz31_4
                try clear hcz31_5
                try clear hcz31_6
                try clear hcz31_7
                try clear hcz31_8
                try clear hcz31_9
                try clear hcz32_0
                try clear hcz32_1
                try clear hcz32_10
                try clear hcz32_11
                try clear hcz32_12
                try clear hcz32_13
                try clear hcz32_14
                try clear hcz32_15
                try clear hcz32_16
                try clear hcz32_2
                try clear hcz32_3
                try clear hcz32_4
                try clear hcz32_5
                try clear hcz32_6
                try clear hcz32_7
                try clear hcz32_8
                try clear hcz32_9
                try clear hcz9_0
                try clear hcz9_1
                try clear hcz9_10
                try clear hcz9_11
                try clear hcz9_12
                try clear hcz9_13
                try clear hcz9_14
                try clear hcz9_15
                try clear hcz9_16
                try clear hcz9_2
                try clear hcz9_3
                try clear hcz9_4
                try clear hcz9_5
                try clear hcz9_6
                try clear hcz9_7
                try clear hcz9_8
                try clear hcz9_9
                try clear hfz11_0
                try clear hfz11_1
                try clear hfz11_10
                try clear hfz11_11
                try clear hfz11_12
                try clear hfz11_13
                try clear hfz11_14
                try clear hfz11_15
                try clear hfz11_16
                try clear hfz11_2
                try clear hfz11_3
                try clear hfz11_4
                try clear hfz11_5
                try clear hfz11_6
                try clear hfz11_7
                try clear hfz11_8
                try clear hfz11_9
                try clear hfz13_0
                try clear hfz13_1
                try clear hfz13_10
                try clear hfz13_11
                try clear hfz13_12
                try clear hfz13_13
                try clear hfz13_14
                try clear hfz13_15
                try clear hfz13_16
                try clear hfz13_2
                try clear hfz13_3
                try clear hfz13_4
                try clear hfz13_5
                try clear hfz13_6
                try clear hfz13_7
                try clear hfz13_8
                try clear hfz13_9
                try clear hfz14_0
                try clear hfz14_1
                try clear hfz14_10
                try clear hfz14_11
                try clear hfz14_12
                try clear hfz14_13
                try clear hfz14_14
                try clear hfz14_15
                try clear hfz14_16
                try clear hfz14_2
                try clear hfz14_3
                try clear hfz14_4
                try clear hfz14_5
                try clear hfz14_6
                try clear hfz14_7
                try clear hfz14_8
                try clear hfz14_9
                try clear hfz16_0
                try clear hfz16_1
                try clear hfz16_10
                try clear hfz16_11
                try clear hfz16_12
                try clear hfz16_13
                try clear hfz16_14
                try clear hfz16_15
                try clear hfz16_16
                try clear hfz16_2
                try clear hfz16_3
                try clear hfz16_4
                try clear hfz16_5
                try clear hfz16_6
                try clear hfz16_7
                try clear hfz16_8
                try clear hfz16_9
                try clear hfz18_0
                try clear hfz18_1
                try clear hfz18_10
                try clear hfz18_11
                try clear hfz18_12
                try clear hfz18_13
                try clear hfz18_14
                try clear hfz18_15
                try clear hfz18_16
                try clear hfz18_2
                try clear hfz18_3
                try clear hfz18_4
                try clear hfz18_5
                try clear hfz18_6
                try clear hfz18_7
                try clear hfz18_8
                try clear hfz18_9
                try clear hfz19_0
                try clear hfz19_1
                try clear hfz19_10
                try clear hfz19_11
                try clear hfz19_12
                try clear hfz19_13
                try clear hfz19_14
                try clear hfz19_15
                try clear hfz19_16
                try clear hfz19_2
                try clear hfz19_3
                try clear hfz19_4
                try clear hfz19_5
                try clear hfz19_6
                try clear hfz19_7
                try clear hfz19_8
                try clear hfz19_9
                try clear hfz21_0
                try clear hfz21_1
                try clear hfz21_10
                try clear hfz21_11
                try clear hfz21_12
                try clear hfz21_13
                try clear hfz21_14
                try clear hfz21_15
                try clear hfz21_16
                try clear hfz21_2
                try clear hfz21_3
                try clear hfz21_4
                try clear hfz21_5
                try clear hfz21_6
                try clear hfz21_7
                try clear hfz21_8
                try clear hfz21_9
                try clear hfz23_0
                try clear hfz23_1
                try clear hfz23_10
                try clear hfz23_11
                try clear hfz23_12
                try clear hfz23_13
                try clear hfz23_14
                try clear hfz23_15
                try clear hfz23_16
                try clear hfz23_2
                try clear hfz23_3
                try clear hfz23_4
                try clear hfz23_5
                try clear hfz23_6
                try clear hfz23_7
                try clear hfz23_8
                try clear hfz23_9
                try clear hfz30_0
                try clear hfz30_1
                try clear hfz30_10
                try clear hfz30_11
                try clear hfz30_12
                try clear hfz30_13
                try clear hfz30_14
                try clear hfz30_15
                try clear hfz30_16
                try clear hfz30_2
                try clear hfz30_3
                try clear hfz30_4
                try clear hfz30_5
                try clear hfz30_6
                try clear hfz30_7
                try clear hfz30_8
                try clear hfz30_9
                try clear hfz31_0
                try clear hfz31_1
                try clear hfz31_10
                try clear hfz31_11
                try clear hfz31_12
                try clear hfz31_13
                try clear hfz31_14
                try clear hfz31_15
                try clear hfz31_16
                try clear hfz31_2
                try clear hfz31_3
                try clear hfz31_4
                try clear hfz31_5
                try clear hfz31_6
                try clear hfz31_7
                try clear hfz31_8
                try clear hfz31_9
                try clear hfz32_0
                try clear hfz32_1
                try clear hfz32_10
                try clear hfz32_11
                try clear hfz32_12
                try clear hfz32_13
                try clear hfz32_14
                try clear hfz32_15
                try clear hfz32_16
                try clear hfz32_2
                try clear hfz32_3
                try clear hfz32_4
                try clear hfz32_5
                try clear hfz32_6
                try clear hfz32_7
                try clear hfz32_8
                try clear hfz32_9
                try clear hfz9_0
                try clear hfz9_1
                try clear hfz9_10
                try clear hfz9_11
                try clear hfz9_12
                try clear hfz9_13
                try clear hfz9_14
                try clear hfz9_15
                try clear hfz9_16
                try clear hfz9_2
                try clear hfz9_3
                try clear hfz9_4
                try clear hfz9_5
                try clear hfz9_6
                try clear hfz9_7
                try clear hfz9_8
                try clear hfz9_9
                try clear hx118_0
                try clear hx118_1
                try clear p118
                try clear p2
                try clear q118
                obtain ⟨x4_3, rfl, HA, HK3, BK115, HB⟩ := hrel
                cases gk with
                | zero => exact absurd HA.out (by simp [spec_PyPIKnown.l1])
                | succ k3 =>
                  have H := HA.out
                  clear HA
                  simp only [spec_PyPIKnown.l1] at H
                  by_cases c33 : x4_3 < (l0_15.length : Int)
                  · rw [if_pos c33] at H
                    have c33b0 : decide (x4_3 < (l0_15.length : Int)) = true := decide_eq_true c33
                    clear c33
                    by_cases c34 : 0 ≤ x4_3
                    · rw [if_pos c34] at H
                      have c34b0 : decide (0 ≤ x4_3) = true := decide_eq_true c34
                      clear c34
                      replace H := Option.bind_eq_some_iff.mp H
                      obtain ⟨t120, A350, H⟩ := H
                      replace H : (if t120 = true then (spec_PyPIKnown.l1 k3 (wrap64 (x4_3 + 1)) a0_0 a0_1 l0_2 a0_3 a0_4 a0_5 a0_6 a0_7 a0_8 a0_9 a0_10 a0_11 a0_12 a0_13 a0_14 l0_15 l0_16) else (some false)) = some r := H
                      have A35 := Aside0.mk A350
                      clear A350
                      by_cases c36 : t120 = true
                      · subst c36
                        have H1 : (spec_PyPIKnown.l1 k3 (wrap64 (x4_3 + 1)) a0_0 a0_1 l0_2 a0_3 a0_4 a0_5 a0_6 a0_7 a0_8 a0_9 a0_10 a0_11 a0_12 a0_13 a0_14 l0_15 l0_16) = some r := by rw [if_pos rfl] at H; exact H
                        clear H
                        have H := H1
                        clear H1
                        have H' := Aside0.mk H
                        clear H
                        have hcz37_0 : wr.cell? ⟨gb115, 0, none⟩ = some (.bool a0_0) := (blk_cell BK115.out 0).trans rfl
                        have hcz37_1 : wr.cell? ⟨gb115, 1, none⟩ = some (.string a0_1) := (blk_cell BK115.out 1).trans rfl
                        have hcz37_2 : wr.cell? ⟨gb115, 2, none⟩ = some (.slice A0_2 l0_2.length c0_2) := (blk_cell BK115.out 2).trans rfl
                        have hcz37_3 : wr.cell? ⟨gb115, 3, none⟩ = some (.bool a0_3) := (blk_cell BK115.out 3).trans rfl
                        have hcz37_4 : wr.cell? ⟨gb115, 4, none⟩ = some (.string a0_4) := (blk_cell BK115.out 4).trans rfl
                        have hcz37_5 : wr.cell? ⟨gb115, 5, none⟩ = some (.bool a0_5) := (blk_cell BK115.out 5).trans rfl
                        have hcz37_6 : wr.cell? ⟨gb115, 6, none⟩ = some (.string a0_6) := (blk_cell BK115.out 6).trans rfl
                        have hcz37_7 : wr.cell? ⟨gb115, 7, none⟩ = some (.bool a0_7) := (blk_cell BK115.out 7).trans rfl
                        have hcz37_8 : wr.cell? ⟨gb115, 8, none⟩ = some (.string a0_8) := (blk_cell BK115.out 8).trans rfl
                        have hcz37_9 : wr.cell? ⟨gb115, 9, none⟩ = some (.bool a0_9) := (blk_cell BK115.out 9).trans rfl
                        have hcz37_10 : wr.cell? ⟨gb115, 10, none⟩ = some (.string a0_10) := (blk_cell BK115.out 10).trans rfl
                        have hcz37_11 : wr.cell? ⟨gb115, 11, none⟩ = some (.bool a0_11) := (blk_cell BK115.out 11).trans rfl
                        have hcz37_12 : wr.cell? ⟨gb115, 12, none⟩ = some (.string a0_12) := (blk_cell BK115.out 12).trans rfl
                        have hcz37_13 : wr.cell? ⟨gb115, 13, none⟩ = some (.bool a0_13) := (blk_cell BK115.out 13).trans rfl
                        have hcz37_14 : wr.cell? ⟨gb115, 14, none⟩ = some (.string a0_14) := (blk_cell BK115.out 14).trans rfl
                        have hcz37_15 : wr.cell? ⟨gb115, 15, none⟩ = some (.slice A0_15 l0_15.length c0_15) := (blk_cell BK115.out 15).trans rfl
                        have hcz37_16 : wr.cell? ⟨gb115, 16, none⟩ = some (.slice A0_16 l0_16.length c0_16) := (blk_cell BK115.out 16).trans rfl
                        have hfz37_0 := blk_frozen BK115.out 0
                        have hfz37_1 := blk_frozen BK115.out 1
                        have hfz37_2 := blk_frozen BK115.out 2
                        have hfz37_3 := blk_frozen BK115.out 3
                        have hfz37_4 := blk_frozen BK115.out 4
                        have hfz37_5 := blk_frozen BK115.out 5
                        have hfz37_6 := blk_frozen BK115.out 6
                        have hfz37_7 := blk_frozen BK115.out 7
                        have hfz37_8 := blk_frozen BK115.out 8
                        have hfz37_9 := blk_frozen BK115.out 9
                        have hfz37_10 := blk_frozen BK115.out 10
                        have hfz37_11 := blk_frozen BK115.out 11
                        have hfz37_12 := blk_frozen BK115.out 12
                        have hfz37_13 := blk_frozen BK115.out 13
                        have hfz37_14 := blk_frozen BK115.out 14
                        have hfz37_15 := blk_frozen BK115.out 15
                        have hfz37_16 := blk_frozen BK115.out 16
                        have p119 : 0 ≤ (x4_3 : Int) := of_decide_eq_true (by first | (with_reducible assumption) | assumption)
                        have q119 : x4_3 < (l0_15.length : Int) := of_decide_eq_true (by first | (with_reducible assumption) | assumption)
                        obtain ⟨ad119, e119, hx119_0⟩ := Kd.at_string HR0_15.out x4_3 p119 q119
                        cases e119
                        replace hx119_0 := (HB.out.cell (World.block_lt_of_cell? w _ hx119_0)).trans hx119_0
                        replace p119 := eq_true p119
                        replace q119 := eq_true q119
                        go_wp2_with (first | ((with_reducible refine gate_callee (f := 23) rfl ?_); refine goesL_ (some 52) rfl rfl Tryz.func23 (by kernel_rfl) rfl #[.string (rdOf ByteArray.empty l0_15 x4_3)] rfl (by (try simp only [List.map_toArray, List.map_cons, List.map_nil]); first | done | rfl | (simp only [List.length_drop, List.length_take]; rfl)) ?_; (with_reducible refine (spec_Ascii.calls k3 (rdOf ByteArray.empty l0_15 x4_3) true _ A35.out).mono ?_); rintro e w' ⟨rfl, ⟨nd, rfl⟩⟩; refine ⟨_, rfl, ?_⟩))
                        go_roundg k3
                        case measure => have := HJ1.out; have := HK2.out; have := HK3.out; omega
                        case rel => exact ⟨(wrap64 (x4_3 + 1)), (by first | rfl | (simp; done) | (simp [*]; done) | (simp [bne_nil_]; done)), H', ⟨by have := HJ1.out; have := HK2.out; have := HK3.out; omega⟩, ⟨by (with_reducible repeat (first | refine blk_drewN ?_ _ | refine blk_drew ?_ | refine blk_alloc ?_ _)); exact BK115.out⟩, ⟨by repeat (first | (with_reducible first | exact HB.out | apply below_alloc | apply pw_below_drewN | apply below_drew1 | refine below_set ?_ GE115.out) | exact HB.out)⟩⟩
                      · replace c36 := Bool.eq_false_iff.mpr c36
                        subst c36
                        have H1 : (some false) = some r := by rw [if_neg (show ¬ (false = true) by decide)] at H; exact H
                        clear H
                        have H := H1
                        clear H1
                        obtain rfl := Option.some.inj H
                        have hcz38_0 : wr.cell? ⟨gb115, 0, none⟩ = some (.bool a0_0) := (blk_cell BK115.out 0).trans rfl
                        have hcz38_1 : wr.cell? ⟨gb115, 1, none⟩ = some (.string a0_1) := (blk_cell BK115.out 1).trans rfl
                        have hcz38_2 : wr.cell? ⟨gb115, 2, none⟩ = some (.slice A0_2 l0_2.length c0_2) := (blk_cell BK115.out 2).trans rfl
                        have hcz38_3 : wr.cell? ⟨gb115, 3, none⟩ = some (.bool a0_3) := (blk_cell BK115.out 3).trans rfl
                        have hcz38_4 : wr.cell? ⟨gb115, 4, none⟩ = some (.string a0_4) := (blk_cell BK115.out 4).trans rfl
                        have hcz38_5 : wr.cell? ⟨gb115, 5, none⟩ = some (.bool a0_5) := (blk_cell BK115.out 5).trans rfl
                        have hcz38_6 : wr.cell? ⟨gb115, 6, none⟩ = some (.string a0_6) := (blk_cell BK115.out 6).trans rfl
                        have hcz38_7 : wr.cell? ⟨gb115, 7, none⟩ = some (.bool a0_7) := (blk_cell BK115.out 7).trans rfl
                        have hcz38_8 : wr.cell? ⟨gb115, 8, none⟩ = some (.string a0_8) := (blk_cell BK115.out 8).trans rfl
                        have hcz38_9 : wr.cell? ⟨gb115, 9, none⟩ = some (.bool a0_9) := (blk_cell BK115.out 9).trans rfl
                        have hcz38_10 : wr.cell? ⟨gb115, 10, none⟩ = some (.string a0_10) := (blk_cell BK115.out 10).trans rfl
                        have hcz38_11 : wr.cell? ⟨gb115, 11, none⟩ = some (.bool a0_11) := (blk_cell BK115.out 11).trans rfl
                        have hcz38_12 : wr.cell? ⟨gb115, 12, none⟩ = some (.string a0_12) := (blk_cell BK115.out 12).trans rfl
                        have hcz38_13 : wr.cell? ⟨gb115, 13, none⟩ = some (.bool a0_13) := (blk_cell BK115.out 13).trans rfl
                        have hcz38_14 : wr.cell? ⟨gb115, 14, none⟩ = some (.string a0_14) := (blk_cell BK115.out 14).trans rfl
                        have hcz38_15 : wr.cell? ⟨gb115, 15, none⟩ = some (.slice A0_15 l0_15.length c0_15) := (blk_cell BK115.out 15).trans rfl
                        have hcz38_16 : wr.cell? ⟨gb115, 16, none⟩ = some (.slice A0_16 l0_16.length c0_16) := (blk_cell BK115.out 16).trans rfl
                        have hfz38_0 := blk_frozen BK115.out 0
                        have hfz38_1 := blk_frozen BK115.out 1
                        have hfz38_2 := blk_frozen BK115.out 2
                        have hfz38_3 := blk_frozen BK115.out 3
                        have hfz38_4 := blk_frozen BK115.out 4
                        have hfz38_5 := blk_frozen BK115.out 5
                        have hfz38_6 := blk_frozen BK115.out 6
                        have hfz38_7 := blk_frozen BK115.out 7
                        have hfz38_8 := blk_frozen BK115.out 8
                        have hfz38_9 := blk_frozen BK115.out 9
                        have hfz38_10 := blk_frozen BK115.out 10
                        have hfz38_11 := blk_frozen BK115.out 11
                        have hfz38_12 := blk_frozen BK115.out 12
                        have hfz38_13 := blk_frozen BK115.out 13
                        have hfz38_14 := blk_frozen BK115.out 14
                        have hfz38_15 := blk_frozen BK115.out 15
                        have hfz38_16 := blk_frozen BK115.out 16
                        have p119 : 0 ≤ (x4_3 : Int) := of_decide_eq_true (by first | (with_reducible assumption) | assumption)
                        have q119 : x4_3 < (l0_15.length : Int) := of_decide_eq_true (by first | (with_reducible assumption) | assumption)
                        obtain ⟨ad119, e119, hx119_0⟩ := Kd.at_string HR0_15.out x4_3 p119 q119
                        cases e119
                        replace hx119_0 := (HB.out.cell (World.block_lt_of_cell? w _ hx119_0)).trans hx119_0
                        replace p119 := eq_true p119
                        replace q119 := eq_true q119
                        go_wp2_with (first | ((with_reducible refine gate_callee (f := 23) rfl ?_); refine goesL_ (some 52) rfl rfl Tryz.func23 (by kernel_rfl) rfl #[.string (rdOf ByteArray.empty l0_15 x4_3)] rfl (by (try simp only [List.map_toArray, List.map_cons, List.map_nil]); first | done | rfl | (simp only [List.length_drop, List.length_take]; rfl)) ?_; (with_reducible refine (spec_Ascii.calls k3 (rdOf ByteArray.empty l0_15 x4_3) false _ A35.out).mono ?_); rintro e w' ⟨rfl, ⟨nd, rfl⟩⟩; refine ⟨_, rfl, ?_⟩))
                        go_ret
                        exact ⟨by first | rfl | (simp [errW_none, errW_some] <;> rfl) | (simp [*, errW_none, errW_some] <;> rfl) | (simp [bne_nil_]; done), by repeat (first | (with_reducible first | exact HB.out | apply below_alloc | apply pw_below_drewN | apply below_drew1 | refine below_set ?_ GE115.out) | exact HB.out)⟩
                    · rw [if_neg c34] at H
                      exact absurd H (by simp)
                  · rw [if_neg c33] at H
                    have c33b0 : decide (x4_3 < (l0_15.length : Int)) = false := decide_eq_false c33
                    clear c33
                    have H' := Aside0.mk H
                    clear H
                    have hcz39_0 : wr.cell? ⟨gb115, 0, none⟩ = some (.bool a0_0) := (blk_cell BK115.out 0).trans rfl
                    have hcz39_1 : wr.cell? ⟨gb115, 1, none⟩ = some (.string a0_1) := (blk_cell BK115.out 1).trans rfl
                    have hcz39_2 : wr.cell? ⟨gb115, 2, none⟩ = some (.slice A0_2 l0_2.length c0_2) := (blk_cell BK115.out 2).trans rfl
                    have hcz39_3 : wr.cell? ⟨gb115, 3, none⟩ = some (.bool a0_3) := (blk_cell BK115.out 3).trans rfl
                    have hcz39_4 : wr.cell? ⟨gb115, 4, none⟩ = some (.string a0_4) := (blk_cell BK115.out 4).trans rfl
                    have hcz39_5 : wr.cell? ⟨gb115, 5, none⟩ = some (.bool a0_5) := (blk_cell BK115.out 5).trans rfl
                    have hcz39_6 : wr.cell? ⟨gb115, 6, none⟩ = some (.string a0_6) := (blk_cell BK115.out 6).trans rfl
                    have hcz39_7 : wr.cell? ⟨gb115, 7, none⟩ = some (.bool a0_7) := (blk_cell BK115.out 7).trans rfl
                    have hcz39_8 : wr.cell? ⟨gb115, 8, none⟩ = some (.string a0_8) := (blk_cell BK115.out 8).trans rfl
                    have hcz39_9 : wr.cell? ⟨gb115, 9, none⟩ = some (.bool a0_9) := (blk_cell BK115.out 9).trans rfl
                    have hcz39_10 : wr.cell? ⟨gb115, 10, none⟩ = some (.string a0_10) := (blk_cell BK115.out 10).trans rfl
                    have hcz39_11 : wr.cell? ⟨gb115, 11, none⟩ = some (.bool a0_11) := (blk_cell BK115.out 11).trans rfl
                    have hcz39_12 : wr.cell? ⟨gb115, 12, none⟩ = some (.string a0_12) := (blk_cell BK115.out 12).trans rfl
                    have hcz39_13 : wr.cell? ⟨gb115, 13, none⟩ = some (.bool a0_13) := (blk_cell BK115.out 13).trans rfl
                    have hcz39_14 : wr.cell? ⟨gb115, 14, none⟩ = some (.string a0_14) := (blk_cell BK115.out 14).trans rfl
                    have hcz39_15 : wr.cell? ⟨gb115, 15, none⟩ = some (.slice A0_15 l0_15.length c0_15) := (blk_cell BK115.out 15).trans rfl
                    have hcz39_16 : wr.cell? ⟨gb115, 16, none⟩ = some (.slice A0_16 l0_16.length c0_16) := (blk_cell BK115.out 16).trans rfl
                    have hfz39_0 := blk_frozen BK115.out 0
                    have hfz39_1 := blk_frozen BK115.out 1
                    have hfz39_2 := blk_frozen BK115.out 2
                    have hfz39_3 := blk_frozen BK115.out 3
                    have hfz39_4 := blk_frozen BK115.out 4
                    have hfz39_5 := blk_frozen BK115.out 5
                    have hfz39_6 := blk_frozen BK115.out 6
                    have hfz39_7 := blk_frozen BK115.out 7
                    have hfz39_8 := blk_frozen BK115.out 8
                    have hfz39_9 := blk_frozen BK115.out 9
                    have hfz39_10 := blk_frozen BK115.out 10
                    have hfz39_11 := blk_frozen BK115.out 11
                    have hfz39_12 := blk_frozen BK115.out 12
                    have hfz39_13 := blk_frozen BK115.out 13
                    have hfz39_14 := blk_frozen BK115.out 14
                    have hfz39_15 := blk_frozen BK115.out 15
                    have hfz39_16 := blk_frozen BK115.out 16
                    go_wp2
                    go_loopg [5] k3 (fun kq v5 w' => ∃ (x5_4 : Int), v5 = .int .i64 x5_4 ∧ Aside0 (spec_PyPIKnown.l2 kq x5_4 a0_0 a0_1 l0_2 a0_3 a0_4 a0_5 a0_6 a0_7 a0_8 a0_9 a0_10 a0_11 a0_12 a0_13 a0_14 l0_15 l0_16 = some r) ∧ Aside0 (kq ≤ k3) ∧ Aside0 (w'.heap[gb115]? = some (.cells #[.bool a0_0, .string a0_1, (.slice A0_2 l0_2.length c0_2), .bool a0_3, .string a0_4, .bool a0_5, .string a0_6, .bool a0_7, .string a0_8, .bool a0_9, .string a0_10, .bool a0_11, .string a0_12, .bool a0_13, .string a0_14, (.slice A0_15 l0_15.length c0_15), (.slice A0_16 l0_16.length c0_16)] 29 (0, 0))) ∧ Aside0 (Below w.heap.size w w'))
                    case atStart => exact ⟨(0), (by first | rfl | (simp; done) | (simp [*]; done) | (simp [bne_nil_]; done)), H', ⟨Nat.le_refl _⟩, ⟨by (with_reducible repeat (first | refine blk_drewN ?_ _ | refine blk_drew ?_ | refine blk_alloc ?_ _)); exact BK115.out⟩, ⟨by repeat (first | (with_reducible first | exact HB.out | apply below_alloc | apply pw_below_drewN | apply below_drew1 | refine below_set ?_ GE115.out) | exact HB.out)⟩⟩
                    case round =>
                      clear H'
                      try clear c1
                      try clear p1
                      try clear q1
                      try clear hx1
                      try clear c2
                      try clear p2
                      try clear q2
                      try clear c3
                      try clear c5
                      try clear p6
                      try clear c7
                      try clear c8
                      try clear p11
                      try clear q11
                      try clear hx11
                      try clear c13
                      try clear c21
                      try clear c23
                      try clear c25
                      try clear c26
                      try clear c26b0
                      try clear c27
                      try clear c27b0
                      try clear q28
                      try clear c29
                      try clear c33
                      try clear c33b0
                      try clear c34
                      try clear c34b0
                      try clear c36
                      try clear hcz11_0
                      try clear hcz11_1
                      try clear hcz11_10
                      try clear hcz11_11
                      try clear hcz11_12
                      try clear hcz11_13
                      try clear hcz11_14
                      try clear hcz11_15
                      try clear hcz11_16
                      try clear hcz11_2
                      try clear hcz11_3
                      try clear hcz11_4
                      try clear hcz11_5
                      try clear hcz11_6
                      try clear hcz11_7
                      try clear hcz11_8
                      try clear hcz11_9
                      try clear hcz13_0
                      try clear hcz13_1
                      try clear hcz13_10
                      try clear hcz13_11
                      try clear hcz13_12
                      try clear hcz13_13
                      try clear hcz13_14
                      try clear hcz13_15
                      try clear hcz13_16
                      try clear hcz13_2
                      try clear hcz13_3
                      try clear hcz13_4
                      try clear hcz13_5
                      try clear hcz13_6
                      try clear hcz13_7
                      try clear hcz13_8
                      try clear hcz13_9
                      try clear hcz14_0
                      try clear hcz14_1
                      try clear hcz14_10
                      try clear hcz14_11
                      try clear hcz14_12
                      try clear hcz14_13
                      try clear hcz14_14
                      try clear hcz14_15
                      try clear hcz14_16
                      try clear hcz14_2
                      try clear hcz14_3
                      try clear hcz14_4
                      try clear hcz14_5
                      try clear hcz14_6
                      try clear hcz14_7
                      try clear hcz14_8
                      try clear hcz14_9
                      try clear hcz16_0
                      try clear hcz16_1
                      try clear hcz16_10
                      try clear hcz16_11
                      try clear hcz16_12
                      try clear hcz16_13
                      try clear hcz16_14
                      try clear hcz16_15
                      try clear hcz16_16
                      try clear hcz16_2
                      try clear hcz16_3
                      try clear hcz16_4
                      try clear hcz16_5
                      try clear hcz16_6
                      try clear hcz16_7
                      try clear hcz16_8
                      try clear hcz16_9
                      try clear hcz18_0
                      try clear hcz18_1
                      try clear hcz18_10
                      try clear hcz18_11
                      try clear hcz18_12
                      try clear hcz18_13
                      try clear hcz18_14
                      try clear hcz18_15
                      try clear hcz18_16
                      try clear hcz18_2
                      try clear hcz18_3
                      try clear hcz18_4
                      try clear hcz18_5
                      try clear hcz18_6
                      try clear hcz18_7
                      try clear hcz18_8
                      try clear hcz18_9
                      try clear hcz19_0
                      try clear hcz19_1
                      try clear hcz19_10
                      try clear hcz19_11
                      try clear hcz19_12
                      try clear hcz19_13
                      try clear hcz19_14
                      try clear hcz19_15
                      try clear hcz19_16
                      try clear hcz19_2
                      try clear hcz19_3
                      try clear hcz19_4
                      try clear hcz19_5
                      try clear hcz19_6
                      try clear hcz19_7
                      try clear hcz19_8
                      try clear hcz19_9
                      try clear hcz21_0
                      try clear hcz21_1
                      try clear hcz21_10
                      try clear hcz21_11
                      try clear hcz21_12
                      try clear hcz21_13
                      try clear hcz21_14
                      try clear hcz21_15
                      try clear hcz21_16
                      try clear hcz21_2
                      try clear hcz21_3
                      try clear hcz21_4
                      try clear hcz21_5
                      try clear hcz21_6
                      try clear hcz21_7
                      try clear hcz21_8
                      try clear hcz21_9
                      try clear hcz23_0
                      try clear hcz23_1
                      try clear hcz23_10
                      try clear hcz23_11
                      try clear hcz23_12
                      try clear hcz23_13
                      try clear hcz23_14
                      try clear hcz23_15
                      try clear hcz23_16
                      try clear hcz23_2
                      try clear hcz23_3
                      try clear hcz23_4
                      try clear hcz23_5
                      try clear hcz23_6
                      try clear hcz23_7
                      try clear hcz23_8
                      try clear hcz23_9
                      try clear hcz30_0
                      try clear hcz30_1
                      try clear hcz30_10
                      try clear hcz30_11
                      try clear hcz30_12
                      try clear hcz30_13
                      try clear hcz30_14
                      try clear hcz30_15
                      try clear hcz30_16
                      try clear hcz30_2
                      try clear hcz30_3
                      try clear hcz30_4
                      try clear hcz30_5
                      try clear hcz30_6
                      try clear hcz30_7
                      try clear hcz30_8
                      try clear hcz30_9
                      try clear hcz31_0
                      try clear hcz31_1
                      try clear hcz31_10
                      try clear hcz31_11
                      try clear hcz31_12
                      try clear hcz31_13
                      try clear hcz31_14
                      try clear hcz31_15
                      try clear hcz31_16
                      try clear hcz31_2
                      try clear hcz31_3
                      try clear hcz31_4
                      try clear hcz31_5
                      try clear hcz31_6
                      try clear hcz31_7
                      try clear hcz31_8
                      try clear hcz31_9
                      try clear hcz32_0
                      try clear hcz32_1
                      try clear hcz32_10
                      try clear hcz32_11
                      try clear hcz32_12
                      try clear hcz32_13
                      try clear hcz32_14
                      try clear hcz32_15
                      try clear hcz32_16
                      try clear hcz32_2
                      try clear hcz32_3
                      try clear hcz32_4
                      try clear hcz32_5
                      try clear hcz32_6
                      try clear hcz32_7
                      try clear hcz32_8
                      try clear hcz32_9
                      try clear hcz37_0
                      try clear hcz37_1
                      try clear hcz37_10
                      try clear hcz37_11
                      try clear hcz37_12
                      try clear hcz37_13
                      try clear hcz37_14
                      try clear hcz37_15
                      try clear hcz37_16
                      try clear hcz37_2
                      try clear hcz37_3
                      try clear hcz37_4
                      try clear hcz37_5
                      try clear hcz37_6
                      try clear hcz37_7
                      try clear hcz37_8
                      try clear hcz37_9
                      try clear hcz38_0
                      try clear hcz38_1
                      try clear hcz38_10
                      try clear hcz38_11
                      try clear hcz38_12
                      try clear hcz38_13
                      try clear hcz38_14
                      try clear hcz38_15
                      try clear hcz38_16
                      try clear hcz38_2
                      try clear hcz38_3
                      try clear hcz38_4
                      try clear hcz38_5
                      try clear hcz38_6
                      try clear hcz38_7
                      try clear hcz38_8
                      try clear hcz38_9
                      try clear hcz39_0
                      try clear hcz39_1
                      try clear hcz39_10
                      try clear hcz39_11
                      try clear hcz39_12
                      try clear hcz39_13
                      try clear hcz39_14
                      try clear hcz39_15
                      try clear hcz39_16
                      try clear hcz39_2
                      try clear hcz39_3
                      try clear hcz39_4
                      try clear hcz39_5
                      try clear hcz39_6
                      try clear hcz39_7
                      try clear hcz39_8
                      try clear hcz39_9
                      try clear hcz9_0
                      try clear hcz9_1
                      try clear hcz9_10
                      try clear hcz9_11
                      try clear hcz9_12
                      try clear hcz9_13
                      try clear hcz9_14
                      try clear hcz9_15
                      try clear hcz9_16
                      try clear hcz9_2
                      try clear hcz9_3
                      try clear hcz9_4
                      try clear hcz9_5
                      try clear hcz9_6
                      try clear hcz9_7
                      try clear hcz9_8
                      try clear hcz9_9
                      try clear hfz11_0
                      try clear hfz11_1
                      try clear hfz11_10
                      try clear hfz11_11
                      try clear hfz11_12
                      try clear hfz11_13
                      try clear hfz11_14
                      try clear hfz11_15
                      try clear hfz11_16
                      try clear hfz11_2
                      try clear hfz11_3
                      try clear hfz11_4
                      try clear hfz11_5
                      try clear hfz11_6
                      try clear hfz11_7
                      try clear hfz11_8
                      try clear hfz11_9
                      try clear hfz13_0
                      try clear hfz13_1
                      try clear hfz13_10
                      try clear hfz13_11
                      try clear hfz13_12
                      try clear hfz13_13
                      try clear hfz13_14
                      try clear hfz13_15
                      try clear hfz13_16
                      try clear hfz13_2
                      try clear hfz13_3
                      try clear hfz13_4
                      try clear hfz13_5
                      try clear hfz13_6
                      try clear hfz13_7
                      try clear hfz13_8
                      try clear hfz13_9
                      try clear hfz14_0
                      try clear hfz14_1
                      try clear hfz14_10
                      try clear hfz14_11
                      try clear hfz14_12
                      try clear hfz14_13
                      try clear hfz14_14
                      try clear hfz14_15
                      try clear hfz14_16
                      try clear hfz14_2
                      try clear hfz14_3
                      try clear hfz14_4
                      try clear hfz14_5
                      try clear hfz14_6
                      try clear hfz14_7
                      try clear hfz14_8
                      try clear hfz14_9
                      try clear hfz16_0
                      try clear hfz16_1
                      try clear hfz16_10
                      try clear hfz16_11
                      try clear hfz16_12
                      try clear hfz16_13
                      try clear hfz16_14
                      try clear hfz16_15
                      try clear hfz16_16
                      try clear hfz16_2
                      try clear hfz16_3
                      try clear hfz16_4
                      try clear hfz16_5
                      try clear hfz16_6
                      try clear hfz16_7
                      try clear hfz16_8
                      try clear hfz16_9
                      try clear hfz18_0
                      try clear hfz18_1
                      try clear hfz18_10
                      try clear hfz18_11
                      try clear hfz18_12
                      try clear hfz18_13
                      try clear hfz18_14
                      try clear hfz18_15
                      try clear hfz18_16
                      try clear hfz18_2
                      try clear hfz18_3
                      try clear hfz18_4
                      try clear hfz18_5
                      try clear hfz18_6
                      try clear hfz18_7
                      try clear hfz18_8
                      try clear hfz18_9
                      try clear hfz19_0
                      try clear hfz19_1
                      try clear hfz19_10
                      try clear hfz19_11
                      try clear hfz19_12
                      try clear hfz19_13
                      try clear hfz19_14
                      try clear hfz19_15
                      try clear hfz19_16
                      try clear hfz19_2
                      try clear hfz19_3
                      try clear hfz19_4
                      try clear hfz19_5
                      try clear hfz19_6
                      try clear hfz19_7
                      try clear hfz19_8
                      try clear hfz19_9
                      try clear hfz21_0
                      try clear hfz21_1
                      try clear hfz21_10
                      try clear hfz21_11
                      try clear hfz21_12
                      try clear hfz21_13
                      try clear hfz21_14
                      try clear hfz21_15
                      try clear hfz21_16
                      try clear hfz21_2
                      try clear hfz21_3
                      try clear hfz21_4
                      try clear hfz21_5
                      try clear hfz21_6
                      try clear hfz21_7
                      try clear hfz21_8
                      try clear hfz21_9
                      try clear hfz23_0
                      try clear hfz23_1
                      try clear hfz23_10
                      try clear hfz23_11
                      try clear hfz23_12
                      try clear hfz23_13
                      try clear hfz23_14
                      try clear hfz23_15
                      try clear hfz23_16
                      try clear hfz23_2
                      try clear hfz23_3
                      try clear hfz23_4
                      try clear hfz23_5
                      try clear hfz23_6
                      try clear hfz23_7
                      try clear hfz23_8
                      try clear hfz23_9
                      try clear hfz30_0
                      try clear hfz30_1
                      try clear hfz30_10
                      try clear hfz30_11
                      try clear hfz30_12
                      try clear hfz30_13
                      try clear hfz30_14
                      try clear hfz30_15
                      try clear hfz30_16
                      try clear hfz30_2
                      try clear hfz30_3
                      try clear hfz30_4
                      try clear hfz30_5
                      try clear hfz30_6
                      try clear hfz30_7
                      try clear hfz30_8
                      try clear hfz30_9
                      try clear hfz31_0
                      try clear hfz31_1
                      try clear hfz31_10
                      try clear hfz31_11
                      try clear hfz31_12
                      try clear hfz31_13
                      try clear hfz31_14
                      try clear hfz31_15
                      try clear hfz31_16
                      try clear hfz31_2
                      try clear hfz31_3
                      try clear hfz31_4
                      try clear hfz31_5
                      try clear hfz31_6
                      try clear hfz31_7
                      try clear hfz31_8
                      try clear hfz31_9
                      try clear hfz32_0
                      try clear hfz32_1
                      try clear hfz32_10
                      try clear hfz32_11
                      try clear hfz32_12
                      try clear hfz32_13
                      try clear hfz32_14
                      try clear hfz32_15
                      try clear hfz32_16
                      try clear hfz32_2
                      try clear hfz32_3
                      try clear hfz32_4
                      try clear hfz32_5
                      try clear hfz32_6
                      try clear hfz32_7
                      try clear hfz32_8
                      try clear hfz32_9
                      try clear hfz37_0
                      try clear hfz37_1
                      try clear hfz37_10
                      try clear hfz37_11
                      try clear hfz37_12
                      try clear hfz37_13
                      try clear hfz37_14
                      try clear hfz37_15
                      try clear hfz37_16
                      try clear hfz37_2
                      try clear hfz37_3
                      try clear hfz37_4
                      try clear hfz37_5
                      try clear hfz37_6
                      try clear hfz37_7
                      try clear hfz37_8
                      try clear hfz37_9
                      try clear hfz38_0
                      try clear hfz38_1
                      try clear hfz38_10
                      try clear hfz38_11
                      try clear hfz38_12
                      try clear hfz38_13
                      try clear hfz38_14
                      try clear hfz38_15
                      try clear hfz38_16
                      try clear hfz38_2
                      try clear hfz38_3
                      try clear hfz38_4
                      try clear hfz38_5
                      try clear hfz38_6
                      try clear hfz38_7
                      try clear hfz38_8
                      try clear hfz38_9
                      try clear hfz39_0
                      try clear hfz39_1
                      try clear hfz39_10
                      try clear hfz39_11
                      try clear hfz39_12
                      try clear hfz39_13
                      try clear hfz39_14
                      try clear hfz39_15
                      try clear hfz39_16
                      try clear hfz39_2
                      try clear hfz39_3
                      try clear hfz39_4
                      try clear hfz39_5
                      try clear hfz39_6
                      try clear hfz39_7
                      try clear hfz39_8
                      try clear hfz39_9
                      try clear hfz9_0
                      try clear hfz9_1
                      try clear hfz9_10
                      try clear hfz9_11
                      try clear hfz9_12
                      try clear hfz9_13
                      try clear hfz9_14
                      try clear hfz9_15
                      try clear hfz9_16
                      try clear hfz9_2
                      try clear hfz9_3
                      try clear hfz9_4
                      try clear hfz9_5
                      try clear hfz9_6
                      try clear hfz9_7
                      try clear hfz9_8
                      try clear hfz9_9
                      try clear hx118_0
                      try clear hx118_1
                      try clear hx119_0
                      try clear p11
                      try clear p118
                      try clear p119
                      try clear p2
                      try clear p6
                      try clear q11
                      try clear q118
                      try clear q119
                      try clear q2
                      try clear q28
                      obtain ⟨x5_4, rfl, HA, HK4, BK115, HB⟩ := hrel
                      cases gk with
                      | zero => exact absurd HA.out (by simp [spec_PyPIKnown.l2])
                      | succ k4 =>
                        have H := HA.out
                        clear HA
                        simp only [spec_PyPIKnown.l2] at H
                        by_cases c40 : x5_4 < (l0_16.length : Int)
                        · rw [if_pos c40] at H
                          have c40b0 : decide (x5_4 < (l0_16.length : Int)) = true := decide_eq_true c40
                          clear c40
                          by_cases c41 : 0 ≤ x5_4
                          · rw [if_pos c41] at H
                            have c41b0 : decide (0 ≤ x5_4) = true := decide_eq_true c41
                            clear c41
                            replace H := Option.bind_eq_some_iff.mp H
                            obtain ⟨t122, A420, H⟩ := H
                            replace H : (if t122 = true then (spec_PyPIKnown.l2 k4 (wrap64 (x5_4 + 1)) a0_0 a0_1 l0_2 a0_3 a0_4 a0_5 a0_6 a0_7 a0_8 a0_9 a0_10 a0_11 a0_12 a0_13 a0_14 l0_15 l0_16) else (some false)) = some r := H
                            have A42 := Aside0.mk A420
                            clear A420
                            by_cases c43 : t122 = true
                            · subst c43
                              have H1 : (spec_PyPIKnown.l2 k4 (wrap64 (x5_4 + 1)) a0_0 a0_1 l0_2 a0_3 a0_4 a0_5 a0_6 a0_7 a0_8 a0_9 a0_10 a0_11 a0_12 a0_13 a0_14 l0_15 l0_16) = some r := by rw [if_pos rfl] at H; exact H
                              clear H
                              have H := H1
                              clear H1
                              have H' := Aside0.mk H
                              clear H
                              have hcz44_0 : wr.cell? ⟨gb115, 0, none⟩ = some (.bool a0_0) := (blk_cell BK115.out 0).trans rfl
                              have hcz44_1 : wr.cell? ⟨gb115, 1, none⟩ = some (.string a0_1) := (blk_cell BK115.out 1).trans rfl
                              have hcz44_2 : wr.cell? ⟨gb115, 2, none⟩ = some (.slice A0_2 l0_2.length c0_2) := (blk_cell BK115.out 2).trans rfl
                              have hcz44_3 : wr.cell? ⟨gb115, 3, none⟩ = some (.bool a0_3) := (blk_cell BK115.out 3).trans rfl
                              have hcz44_4 : wr.cell? ⟨gb115, 4, none⟩ = some (.string a0_4) := (blk_cell BK115.out 4).trans rfl
                              have hcz44_5 : wr.cell? ⟨gb115, 5, none⟩ = some (.bool a0_5) := (blk_cell BK115.out 5).trans rfl
                              have hcz44_6 : wr.cell? ⟨gb115, 6, none⟩ = some (.string a0_6) := (blk_cell BK115.out 6).trans rfl
                              have hcz44_7 : wr.cell? ⟨gb115, 7, none⟩ = some (.bool a0_7) := (blk_cell BK115.out 7).trans rfl
                              have hcz44_8 : wr.cell? ⟨gb115, 8, none⟩ = some (.string a0_8) := (blk_cell BK115.out 8).trans rfl
                              have hcz44_9 : wr.cell? ⟨gb115, 9, none⟩ = some (.bool a0_9) := (blk_cell BK115.out 9).trans rfl
                              have hcz44_10 : wr.cell? ⟨gb115, 10, none⟩ = some (.string a0_10) := (blk_cell BK115.out 10).trans rfl
                              have hcz44_11 : wr.cell? ⟨gb115, 11, none⟩ = some (.bool a0_11) := (blk_cell BK115.out 11).trans rfl
                              have hcz44_12 : wr.cell? ⟨gb115, 12, none⟩ = some (.string a0_12) := (blk_cell BK115.out 12).trans rfl
                              have hcz44_13 : wr.cell? ⟨gb115, 13, none⟩ = some (.bool a0_13) := (blk_cell BK115.out 13).trans rfl
                              have hcz44_14 : wr.cell? ⟨gb115, 14, none⟩ = some (.string a0_14) := (blk_cell BK115.out 14).trans rfl
                              have hcz44_15 : wr.cell? ⟨gb115, 15, none⟩ = some (.slice A0_15 l0_15.length c0_15) := (blk_cell BK115.out 15).trans rfl
                              have hcz44_16 : wr.cell? ⟨gb115, 16, none⟩ = some (.slice A0_16 l0_16.length c0_16) := (blk_cell BK115.out 16).trans rfl
                              have hfz44_0 := blk_frozen BK115.out 0
                              have hfz44_1 := blk_frozen BK115.out 1
                              have hfz44_2 := blk_frozen BK115.out 2
                              have hfz44_3 := blk_frozen BK115.out 3
                              have hfz44_4 := blk_frozen BK115.out 4
                              have hfz44_5 := blk_frozen BK115.out 5
                              have hfz44_6 := blk_frozen BK115.out 6
                              have hfz44_7 := blk_frozen BK115.out 7
                              have hfz44_8 := blk_frozen BK115.out 8
                              have hfz44_9 := blk_frozen BK115.out 9
                              have hfz44_10 := blk_frozen BK115.out 10
                              have hfz44_11 := blk_frozen BK115.out 11
                              have hfz44_12 := blk_frozen BK115.out 12
                              have hfz44_13 := blk_frozen BK115.out 13
                              have hfz44_14 := blk_frozen BK115.out 14
                              have hfz44_15 := blk_frozen BK115.out 15
                              have hfz44_16 := blk_frozen BK115.out 16
                              have p121 : 0 ≤ (x5_4 : Int) := of_decide_eq_true (by first | (with_reducible assumption) | assumption)
                              have q121 : x5_4 < (l0_16.length : Int) := of_decide_eq_true (by first | (with_reducible assumption) | assumption)
                              obtain ⟨ad121, e121, hx121_0⟩ := Kd.at_string HR0_16.out x5_4 p121 q121
                              cases e121
                              replace hx121_0 := (HB.out.cell (World.block_lt_of_cell? w _ hx121_0)).trans hx121_0
                              replace p121 := eq_true p121
                              replace q121 := eq_true q121
                              go_wp2_with (first | ((with_reducible refine gate_callee (f := 23) rfl ?_); refine goesL_ (some 66) rfl rfl Tryz.func23 (by kernel_rfl) rfl #[.string (rdOf ByteArray.empty l0_16 x5_4)] rfl (by (try simp only [List.map_toArray, List.map_cons, List.map_nil]); first | done | rfl | (simp only [List.length_drop, List.length_take]; rfl)) ?_; (with_reducible refine (spec_Ascii.calls k4 (rdOf ByteArray.empty l0_16 x5_4) true _ A42.out).mono ?_); rintro e w' ⟨rfl, ⟨nd, rfl⟩⟩; refine ⟨_, rfl, ?_⟩))
                              go_roundg k4
                              case measure => have := HJ1.out; have := HK2.out; have := HK3.out; have := HK4.out; omega
                              case rel => exact ⟨(wrap64 (x5_4 + 1)), (by first | rfl | (simp; done) | (simp [*]; done) | (simp [bne_nil_]; done)), H', ⟨by have := HJ1.out; have := HK2.out; have := HK3.out; have := HK4.out; omega⟩, ⟨by (with_reducible repeat (first | refine blk_drewN ?_ _ | refine blk_drew ?_ | refine blk_alloc ?_ _)); exact BK115.out⟩, ⟨by repeat (first | (with_reducible first | exact HB.out | apply below_alloc | apply pw_below_drewN | apply below_drew1 | refine below_set ?_ GE115.out) | exact HB.out)⟩⟩
                            · replace c43 := Bool.eq_false_iff.mpr c43
                              subst c43
                              have H1 : (some false) = some r := by rw [if_neg (show ¬ (false = true) by decide)] at H; exact H
                              clear H
                              have H := H1
                              clear H1
                              obtain rfl := Option.some.inj H
                              have hcz45_0 : wr.cell? ⟨gb115, 0, none⟩ = some (.bool a0_0) := (blk_cell BK115.out 0).trans rfl
                              have hcz45_1 : wr.cell? ⟨gb115, 1, none⟩ = some (.string a0_1) := (blk_cell BK115.out 1).trans rfl
                              have hcz45_2 : wr.cell? ⟨gb115, 2, none⟩ = some (.slice A0_2 l0_2.length c0_2) := (blk_cell BK115.out 2).trans rfl
                              have hcz45_3 : wr.cell? ⟨gb115, 3, none⟩ = some (.bool a0_3) := (blk_cell BK115.out 3).trans rfl
                              have hcz45_4 : wr.cell? ⟨gb115, 4, none⟩ = some (.string a0_4) := (blk_cell BK115.out 4).trans rfl
                              have hcz45_5 : wr.cell? ⟨gb115, 5, none⟩ = some (.bool a0_5) := (blk_cell BK115.out 5).trans rfl
                              have hcz45_6 : wr.cell? ⟨gb115, 6, none⟩ = some (.string a0_6) := (blk_cell BK115.out 6).trans rfl
                              have hcz45_7 : wr.cell? ⟨gb115, 7, none⟩ = some (.bool a0_7) := (blk_cell BK115.out 7).trans rfl
                              have hcz45_8 : wr.cell? ⟨gb115, 8, none⟩ = some (.string a0_8) := (blk_cell BK115.out 8).trans rfl
                              have hcz45_9 : wr.cell? ⟨gb115, 9, none⟩ = some (.bool a0_9) := (blk_cell BK115.out 9).trans rfl
                              have hcz45_10 : wr.cell? ⟨gb115, 10, none⟩ = some (.string a0_10) := (blk_cell BK115.out 10).trans rfl
                              have hcz45_11 : wr.cell? ⟨gb115, 11, none⟩ = some (.bool a0_11) := (blk_cell BK115.out 11).trans rfl
                              have hcz45_12 : wr.cell? ⟨gb115, 12, none⟩ = some (.string a0_12) := (blk_cell BK115.out 12).trans rfl
                              have hcz45_13 : wr.cell? ⟨gb115, 13, none⟩ = some (.bool a0_13) := (blk_cell BK115.out 13).trans rfl
                              have hcz45_14 : wr.cell? ⟨gb115, 14, none⟩ = some (.string a0_14) := (blk_cell BK115.out 14).trans rfl
                              have hcz45_15 : wr.cell? ⟨gb115, 15, none⟩ = some (.slice A0_15 l0_15.length c0_15) := (blk_cell BK115.out 15).trans rfl
                              have hcz45_16 : wr.cell? ⟨gb115, 16, none⟩ = some (.slice A0_16 l0_16.length c0_16) := (blk_cell BK115.out 16).trans rfl
                              have hfz45_0 := blk_frozen BK115.out 0
                              have hfz45_1 := blk_frozen BK115.out 1
                              have hfz45_2 := blk_frozen BK115.out 2
                              have hfz45_3 := blk_frozen BK115.out 3
                              have hfz45_4 := blk_frozen BK115.out 4
                              have hfz45_5 := blk_frozen BK115.out 5
                              have hfz45_6 := blk_frozen BK115.out 6
                              have hfz45_7 := blk_frozen BK115.out 7
                              have hfz45_8 := blk_frozen BK115.out 8
                              have hfz45_9 := blk_frozen BK115.out 9
                              have hfz45_10 := blk_frozen BK115.out 10
                              have hfz45_11 := blk_frozen BK115.out 11
                              have hfz45_12 := blk_frozen BK115.out 12
                              have hfz45_13 := blk_frozen BK115.out 13
                              have hfz45_14 := blk_frozen BK115.out 14
                              have hfz45_15 := blk_frozen BK115.out 15
                              have hfz45_16 := blk_frozen BK115.out 16
                              have p121 : 0 ≤ (x5_4 : Int) := of_decide_eq_true (by first | (with_reducible assumption) | assumption)
                              have q121 : x5_4 < (l0_16.length : Int) := of_decide_eq_true (by first | (with_reducible assumption) | assumption)
                              obtain ⟨ad121, e121, hx121_0⟩ := Kd.at_string HR0_16.out x5_4 p121 q121
                              cases e121
                              replace hx121_0 := (HB.out.cell (World.block_lt_of_cell? w _ hx121_0)).trans hx121_0
                              replace p121 := eq_true p121
                              replace q121 := eq_true q121
                              go_wp2_with (first | ((with_reducible refine gate_callee (f := 23) rfl ?_); refine goesL_ (some 66) rfl rfl Tryz.func23 (by kernel_rfl) rfl #[.string (rdOf ByteArray.empty l0_16 x5_4)] rfl (by (try simp only [List.map_toArray, List.map_cons, List.map_nil]); first | done | rfl | (simp only [List.length_drop, List.length_take]; rfl)) ?_; (with_reducible refine (spec_Ascii.calls k4 (rdOf ByteArray.empty l0_16 x5_4) false _ A42.out).mono ?_); rintro e w' ⟨rfl, ⟨nd, rfl⟩⟩; refine ⟨_, rfl, ?_⟩))
                              go_ret
                              exact ⟨by first | rfl | (simp [errW_none, errW_some] <;> rfl) | (simp [*, errW_none, errW_some] <;> rfl) | (simp [bne_nil_]; done), by repeat (first | (with_reducible first | exact HB.out | apply below_alloc | apply pw_below_drewN | apply below_drew1 | refine below_set ?_ GE115.out) | exact HB.out)⟩
                          · rw [if_neg c41] at H
                            exact absurd H (by simp)
                        · rw [if_neg c40] at H
                          have c40b0 : decide (x5_4 < (l0_16.length : Int)) = false := decide_eq_false c40
                          clear c40
                          replace H := Option.bind_eq_some_iff.mp H
                          obtain ⟨t123, A460, H⟩ := H
                          replace H : (if t123 = true then ((spec_pypiLetterOK.f k4 a0_7 a0_8 a0_9 a0_10).bind fun t124 => (if t124 = true then ((spec_pypiLetterOK.f k4 a0_11 a0_12 a0_13 a0_14).bind fun t125 => (if t125 = true then ((spec_IdentifiersKnown.f k4 l0_15).bind fun t126 => (some t126)) else (some false))) else (some false))) else (some false)) = some r := H
                          have A46 := Aside0.mk A460
                          clear A460
                          by_cases c47 : t123 = true
                          · subst c47
                            have H1 : ((spec_pypiLetterOK.f k4 a0_7 a0_8 a0_9 a0_10).bind fun t124 => (if t124 = true then ((spec_pypiLetterOK.f k4 a0_11 a0_12 a0_13 a0_14).bind fun t125 => (if t125 = true then ((spec_IdentifiersKnown.f k4 l0_15).bind fun t126 => (some t126)) else (some false))) else (some false))) = some r := by rw [if_pos rfl] at H; exact H
                            clear H
                            have H := H1
                            clear H1
                            replace H := Option.bind_eq_some_iff.mp H
                            obtain ⟨t124, A480, H⟩ := H
                            replace H : (if t124 = true then ((spec_pypiLetterOK.f k4 a0_11 a0_12 a0_13 a0_14).bind fun t125 => (if t125 = true then ((spec_IdentifiersKnown.f k4 l0_15).bind fun t126 => (some t126)) else (some false))) else (some false)) = some r := H
                            have A48 := Aside0.mk A480
                            clear A480
                            by_cases c49 : t124 = true
                            · subst c49
                              have H1 : ((spec_pypiLetterOK.f k4 a0_11 a0_12 a0_13 a0_14).bind fun t125 => (if t125 = true then ((spec_IdentifiersKnown.f k4 l0_15).bind fun t126 => (some t126)) else (some false))) = some r := by rw [if_pos rfl] at H; exact H
                              clear H
                              have H := H1
                              clear H1
                              replace H := Option.bind_eq_some_iff.mp H
                              obtain ⟨t125, A500, H⟩ := H
                              replace H : (if t125 = true then ((spec_IdentifiersKnown.f k4 l0_15).bind fun t126 => (some t126)) else (some false)) = some r := H
                              have A50 := Aside0.mk A500
                              clear A500
                              by_cases c51 : t125 = true
                              · subst c51
                                have H1 : ((spec_IdentifiersKnown.f k4 l0_15).bind fun t126 => (some t126)) = some r := by rw [if_pos rfl] at H; exact H
                                clear H
                                have H := H1
                                clear H1
                                replace H := Option.bind_eq_some_iff.mp H
                                obtain ⟨t126, A520, H⟩ := H
                                replace H : (some t126) = some r := H
                                have A52 := Aside0.mk A520
                                clear A520
                                obtain rfl := Option.some.inj H
                                have hcz53_0 : wr.cell? ⟨gb115, 0, none⟩ = some (.bool a0_0) := (blk_cell BK115.out 0).trans rfl
                                have hcz53_1 : wr.cell? ⟨gb115, 1, none⟩ = some (.string a0_1) := (blk_cell BK115.out 1).trans rfl
                                have hcz53_2 : wr.cell? ⟨gb115, 2, none⟩ = some (.slice A0_2 l0_2.length c0_2) := (blk_cell BK115.out 2).trans rfl
                                have hcz53_3 : wr.cell? ⟨gb115, 3, none⟩ = some (.bool a0_3) := (blk_cell BK115.out 3).trans rfl
                                have hcz53_4 : wr.cell? ⟨gb115, 4, none⟩ = some (.string a0_4) := (blk_cell BK115.out 4).trans rfl
                                have hcz53_5 : wr.cell? ⟨gb115, 5, none⟩ = some (.bool a0_5) := (blk_cell BK115.out 5).trans rfl
                                have hcz53_6 : wr.cell? ⟨gb115, 6, none⟩ = some (.string a0_6) := (blk_cell BK115.out 6).trans rfl
                                have hcz53_7 : wr.cell? ⟨gb115, 7, none⟩ = some (.bool a0_7) := (blk_cell BK115.out 7).trans rfl
                                have hcz53_8 : wr.cell? ⟨gb115, 8, none⟩ = some (.string a0_8) := (blk_cell BK115.out 8).trans rfl
                                have hcz53_9 : wr.cell? ⟨gb115, 9, none⟩ = some (.bool a0_9) := (blk_cell BK115.out 9).trans rfl
                                have hcz53_10 : wr.cell? ⟨gb115, 10, none⟩ = some (.string a0_10) := (blk_cell BK115.out 10).trans rfl
                                have hcz53_11 : wr.cell? ⟨gb115, 11, none⟩ = some (.bool a0_11) := (blk_cell BK115.out 11).trans rfl
                                have hcz53_12 : wr.cell? ⟨gb115, 12, none⟩ = some (.string a0_12) := (blk_cell BK115.out 12).trans rfl
                                have hcz53_13 : wr.cell? ⟨gb115, 13, none⟩ = some (.bool a0_13) := (blk_cell BK115.out 13).trans rfl
                                have hcz53_14 : wr.cell? ⟨gb115, 14, none⟩ = some (.string a0_14) := (blk_cell BK115.out 14).trans rfl
                                have hcz53_15 : wr.cell? ⟨gb115, 15, none⟩ = some (.slice A0_15 l0_15.length c0_15) := (blk_cell BK115.out 15).trans rfl
                                have hcz53_16 : wr.cell? ⟨gb115, 16, none⟩ = some (.slice A0_16 l0_16.length c0_16) := (blk_cell BK115.out 16).trans rfl
                                have hfz53_0 := blk_frozen BK115.out 0
                                have hfz53_1 := blk_frozen BK115.out 1
                                have hfz53_2 := blk_frozen BK115.out 2
                                have hfz53_3 := blk_frozen BK115.out 3
                                have hfz53_4 := blk_frozen BK115.out 4
                                have hfz53_5 := blk_frozen BK115.out 5
                                have hfz53_6 := blk_frozen BK115.out 6
                                have hfz53_7 := blk_frozen BK115.out 7
                                have hfz53_8 := blk_frozen BK115.out 8
                                have hfz53_9 := blk_frozen BK115.out 9
                                have hfz53_10 := blk_frozen BK115.out 10
                                have hfz53_11 := blk_frozen BK115.out 11
                                have hfz53_12 := blk_frozen BK115.out 12
                                have hfz53_13 := blk_frozen BK115.out 13
                                have hfz53_14 := blk_frozen BK115.out 14
                                have hfz53_15 := blk_frozen BK115.out 15
                                have hfz53_16 := blk_frozen BK115.out 16
                                go_wp2_with (first | ((with_reducible refine gate_callee (f := 24) rfl ?_); refine goesL_ (some 70) rfl rfl Tryz.func24 (by kernel_rfl) rfl #[.agg #[.bool a0_3, .string a0_4, .bool a0_5, .string a0_6]] rfl (by (try simp only [List.map_toArray, List.map_cons, List.map_nil]); first | done | rfl | (simp only [List.length_drop, List.length_take]; rfl)) ?_; (with_reducible refine (spec_pypiLetterOK.calls k4 a0_3 a0_4 a0_5 a0_6 true _ A46.out).mono ?_); rintro e w54 ⟨rfl, hb⟩; refine ⟨_, rfl, ?_⟩; have n0_ := Aside0.mk (blk_below (g := gb115) (o := .cells #[.bool a0_0, .string a0_1, .slice A0_2 l0_2.length c0_2, .bool a0_3, .string a0_4, .bool a0_5, .string a0_6, .bool a0_7, .string a0_8, .bool a0_9, .string a0_10, .bool a0_11, .string a0_12, .bool a0_13, .string a0_14, .slice A0_15 l0_15.length c0_15, .slice A0_16 l0_16.length c0_16] 29 (0, 0)) (by (with_reducible repeat (first | refine blk_drewN ?_ _ | refine blk_drew ?_ | refine blk_alloc ?_ _)); exact BK115.out) hb); have n1_ := Aside0.mk (below_step (by repeat (first | (with_reducible first | exact HB.out | apply below_alloc | apply pw_below_drewN | apply below_drew1 | refine below_set ?_ GE115.out) | exact HB.out)) hb); clear BK115; clear HB; have BK115 := n0_; have HB := n1_; clear n0_ n1_; (try clear hb); (try clear hb2); (try clear hk); (try clear hi); have hcz55_0 : w54.cell? ⟨gb115, 0, none⟩ = some (.bool a0_0) := (blk_cell BK115.out 0).trans rfl; have hcz55_1 : w54.cell? ⟨gb115, 1, none⟩ = some (.string a0_1) := (blk_cell BK115.out 1).trans rfl; have hcz55_2 : w54.cell? ⟨gb115, 2, none⟩ = some (.slice A0_2 l0_2.length c0_2) := (blk_cell BK115.out 2).trans rfl; have hcz55_3 : w54.cell? ⟨gb115, 3, none⟩ = some (.bool a0_3) := (blk_cell BK115.out 3).trans rfl; have hcz55_4 : w54.cell? ⟨gb115, 4, none⟩ = some (.string a0_4) := (blk_cell BK115.out 4).trans rfl; have hcz55_5 : w54.cell? ⟨gb115, 5, none⟩ = some (.bool a0_5) := (blk_cell BK115.out 5).trans rfl; have hcz55_6 : w54.cell? ⟨gb115, 6, none⟩ = some (.string a0_6) := (blk_cell BK115.out 6).trans rfl; have hcz55_7 : w54.cell? ⟨gb115, 7, none⟩ = some (.bool a0_7) := (blk_cell BK115.out 7).trans rfl; have hcz55_8 : w54.cell? ⟨gb115, 8, none⟩ = some (.string a0_8) := (blk_cell BK115.out 8).trans rfl; have hcz55_9 : w54.cell? ⟨gb115, 9, none⟩ = some (.bool a0_9) := (blk_cell BK115.out 9).trans rfl; have hcz55_10 : w54.cell? ⟨gb115, 10, none⟩ = some (.string a0_10) := (blk_cell BK115.out 10).trans rfl; have hcz55_11 : w54.cell? ⟨gb115, 11, none⟩ = some (.bool a0_11) := (blk_cell BK115.out 11).trans rfl; have hcz55_12 : w54.cell? ⟨gb115, 12, none⟩ = some (.string a0_12) := (blk_cell BK115.out 12).trans rfl; have hcz55_13 : w54.cell? ⟨gb115, 13, none⟩ = some (.bool a0_13) := (blk_cell BK115.out 13).trans rfl; have hcz55_14 : w54.cell? ⟨gb115, 14, none⟩ = some (.string a0_14) := (blk_cell BK115.out 14).trans rfl; have hcz55_15 : w54.cell? ⟨gb115, 15, none⟩ = some (.slice A0_15 l0_15.length c0_15) := (blk_cell BK115.out 15).trans rfl; have hcz55_16 : w54.cell? ⟨gb115, 16, none⟩ = some (.slice A0_16 l0_16.length c0_16) := (blk_cell BK115.out 16).trans rfl; have hfz55_0 := blk_frozen BK115.out 0; have hfz55_1 := blk_frozen BK115.out 1; have hfz55_2 := blk_frozen BK115.out 2; have hfz55_3 := blk_frozen BK115.out 3; have hfz55_4 := blk_frozen BK115.out 4; have hfz55_5 := blk_frozen BK115.out 5; have hfz55_6 := blk_frozen BK115.out 6; have hfz55_7 := blk_frozen BK115.out 7; have hfz55_8 := blk_frozen BK115.out 8; have hfz55_9 := blk_frozen BK115.out 9; have hfz55_10 := blk_frozen BK115.out 10; have hfz55_11 := blk_frozen BK115.out 11; have hfz55_12 := blk_frozen BK115.out 12; have hfz55_13 := blk_frozen BK115.out 13; have hfz55_14 := blk_frozen BK115.out 14; have hfz55_15 := blk_frozen BK115.out 15; have hfz55_16 := blk_frozen BK115.out 16) | (go_at_call 24; (with_reducible refine (spec_pypiLetterOK.calls k4 a0_7 a0_8 a0_9 a0_10 true _ A48.out).mono ?_); rintro e w56 ⟨rfl, hb⟩; have n0_ := Aside0.mk (blk_below (g := gb115) (o := .cells #[.bool a0_0, .string a0_1, .slice A0_2 l0_2.length c0_2, .bool a0_3, .string a0_4, .bool a0_5, .string a0_6, .bool a0_7, .string a0_8, .bool a0_9, .string a0_10, .bool a0_11, .string a0_12, .bool a0_13, .string a0_14, .slice A0_15 l0_15.length c0_15, .slice A0_16 l0_16.length c0_16] 29 (0, 0)) (by (with_reducible repeat (first | refine blk_drewN ?_ _ | refine blk_drew ?_ | refine blk_alloc ?_ _)); exact BK115.out) hb); have n1_ := Aside0.mk (below_step (by repeat (first | (with_reducible first | exact HB.out | apply below_alloc | apply pw_below_drewN | apply below_drew1 | refine below_set ?_ GE115.out) | exact HB.out)) hb); clear BK115; clear HB; have BK115 := n0_; have HB := n1_; clear n0_ n1_; (try clear hb); (try clear hb2); (try clear hk); (try clear hi); have hcz57_0 : w56.cell? ⟨gb115, 0, none⟩ = some (.bool a0_0) := (blk_cell BK115.out 0).trans rfl; have hcz57_1 : w56.cell? ⟨gb115, 1, none⟩ = some (.string a0_1) := (blk_cell BK115.out 1).trans rfl; have hcz57_2 : w56.cell? ⟨gb115, 2, none⟩ = some (.slice A0_2 l0_2.length c0_2) := (blk_cell BK115.out 2).trans rfl; have hcz57_3 : w56.cell? ⟨gb115, 3, none⟩ = some (.bool a0_3) := (blk_cell BK115.out 3).trans rfl; have hcz57_4 : w56.cell? ⟨gb115, 4, none⟩ = some (.string a0_4) := (blk_cell BK115.out 4).trans rfl; have hcz57_5 : w56.cell? ⟨gb115, 5, none⟩ = some (.bool a0_5) := (blk_cell BK115.out 5).trans rfl; have hcz57_6 : w56.cell? ⟨gb115, 6, none⟩ = some (.string a0_6) := (blk_cell BK115.out 6).trans rfl; have hcz57_7 : w56.cell? ⟨gb115, 7, none⟩ = some (.bool a0_7) := (blk_cell BK115.out 7).trans rfl; have hcz57_8 : w56.cell? ⟨gb115, 8, none⟩ = some (.string a0_8) := (blk_cell BK115.out 8).trans rfl; have hcz57_9 : w56.cell? ⟨gb115, 9, none⟩ = some (.bool a0_9) := (blk_cell BK115.out 9).trans rfl; have hcz57_10 : w56.cell? ⟨gb115, 10, none⟩ = some (.string a0_10) := (blk_cell BK115.out 10).trans rfl; have hcz57_11 : w56.cell? ⟨gb115, 11, none⟩ = some (.bool a0_11) := (blk_cell BK115.out 11).trans rfl; have hcz57_12 : w56.cell? ⟨gb115, 12, none⟩ = some (.string a0_12) := (blk_cell BK115.out 12).trans rfl; have hcz57_13 : w56.cell? ⟨gb115, 13, none⟩ = some (.bool a0_13) := (blk_cell BK115.out 13).trans rfl; have hcz57_14 : w56.cell? ⟨gb115, 14, none⟩ = some (.string a0_14) := (blk_cell BK115.out 14).trans rfl; have hcz57_15 : w56.cell? ⟨gb115, 15, none⟩ = some (.slice A0_15 l0_15.length c0_15) := (blk_cell BK115.out 15).trans rfl; have hcz57_16 : w56.cell? ⟨gb115, 16, none⟩ = some (.slice A0_16 l0_16.length c0_16) := (blk_cell BK115.out 16).trans rfl; have hfz57_0 := blk_frozen BK115.out 0; have hfz57_1 := blk_frozen BK115.out 1; have hfz57_2 := blk_frozen BK115.out 2; have hfz57_3 := blk_frozen BK115.out 3; have hfz57_4 := blk_frozen BK115.out 4; have hfz57_5 := blk_frozen BK115.out 5; have hfz57_6 := blk_frozen BK115.out 6; have hfz57_7 := blk_frozen BK115.out 7; have hfz57_8 := blk_frozen BK115.out 8; have hfz57_9 := blk_frozen BK115.out 9; have hfz57_10 := blk_frozen BK115.out 10; have hfz57_11 := blk_frozen BK115.out 11; have hfz57_12 := blk_frozen BK115.out 12; have hfz57_13 := blk_frozen BK115.out 13; have hfz57_14 := blk_frozen BK115.out 14; have hfz57_15 := blk_frozen BK115.out 15; have hfz57_16 := blk_frozen BK115.out 16) | (go_at_call 24; (with_reducible refine (spec_pypiLetterOK.calls k4 a0_11 a0_12 a0_13 a0_14 true _ A50.out).mono ?_); rintro e w58 ⟨rfl, hb⟩; have n0_ := Aside0.mk (blk_below (g := gb115) (o := .cells #[.bool a0_0, .string a0_1, .slice A0_2 l0_2.length c0_2, .bool a0_3, .string a0_4, .bool a0_5, .string a0_6, .bool a0_7, .string a0_8, .bool a0_9, .string a0_10, .bool a0_11, .string a0_12, .bool a0_13, .string a0_14, .slice A0_15 l0_15.length c0_15, .slice A0_16 l0_16.length c0_16] 29 (0, 0)) (by (with_reducible repeat (first | refine blk_drewN ?_ _ | refine blk_drew ?_ | refine blk_alloc ?_ _)); exact BK115.out) hb); have n1_ := Aside0.mk (below_step (by repeat (first | (with_reducible first | exact HB.out | apply below_alloc | apply pw_below_drewN | apply below_drew1 | refine below_set ?_ GE115.out) | exact HB.out)) hb); clear BK115; clear HB; have BK115 := n0_; have HB := n1_; clear n0_ n1_; (try clear hb); (try clear hb2); (try clear hk); (try clear hi); have hcz59_0 : w58.cell? ⟨gb115, 0, none⟩ = some (.bool a0_0) := (blk_cell BK115.out 0).trans rfl; have hcz59_1 : w58.cell? ⟨gb115, 1, none⟩ = some (.string a0_1) := (blk_cell BK115.out 1).trans rfl; have hcz59_2 : w58.cell? ⟨gb115, 2, none⟩ = some (.slice A0_2 l0_2.length c0_2) := (blk_cell BK115.out 2).trans rfl; have hcz59_3 : w58.cell? ⟨gb115, 3, none⟩ = some (.bool a0_3) := (blk_cell BK115.out 3).trans rfl; have hcz59_4 : w58.cell? ⟨gb115, 4, none⟩ = some (.string a0_4) := (blk_cell BK115.out 4).trans rfl; have hcz59_5 : w58.cell? ⟨gb115, 5, none⟩ = some (.bool a0_5) := (blk_cell BK115.out 5).trans rfl; have hcz59_6 : w58.cell? ⟨gb115, 6, none⟩ = some (.string a0_6) := (blk_cell BK115.out 6).trans rfl; have hcz59_7 : w58.cell? ⟨gb115, 7, none⟩ = some (.bool a0_7) := (blk_cell BK115.out 7).trans rfl; have hcz59_8 : w58.cell? ⟨gb115, 8, none⟩ = some (.string a0_8) := (blk_cell BK115.out 8).trans rfl; have hcz59_9 : w58.cell? ⟨gb115, 9, none⟩ = some (.bool a0_9) := (blk_cell BK115.out 9).trans rfl; have hcz59_10 : w58.cell? ⟨gb115, 10, none⟩ = some (.string a0_10) := (blk_cell BK115.out 10).trans rfl; have hcz59_11 : w58.cell? ⟨gb115, 11, none⟩ = some (.bool a0_11) := (blk_cell BK115.out 11).trans rfl; have hcz59_12 : w58.cell? ⟨gb115, 12, none⟩ = some (.string a0_12) := (blk_cell BK115.out 12).trans rfl; have hcz59_13 : w58.cell? ⟨gb115, 13, none⟩ = some (.bool a0_13) := (blk_cell BK115.out 13).trans rfl; have hcz59_14 : w58.cell? ⟨gb115, 14, none⟩ = some (.string a0_14) := (blk_cell BK115.out 14).trans rfl; have hcz59_15 : w58.cell? ⟨gb115, 15, none⟩ = some (.slice A0_15 l0_15.length c0_15) := (blk_cell BK115.out 15).trans rfl; have hcz59_16 : w58.cell? ⟨gb115, 16, none⟩ = some (.slice A0_16 l0_16.length c0_16) := (blk_cell BK115.out 16).trans rfl; have hfz59_0 := blk_frozen BK115.out 0; have hfz59_1 := blk_frozen BK115.out 1; have hfz59_2 := blk_frozen BK115.out 2; have hfz59_3 := blk_frozen BK115.out 3; have hfz59_4 := blk_frozen BK115.out 4; have hfz59_5 := blk_frozen BK115.out 5; have hfz59_6 := blk_frozen BK115.out 6; have hfz59_7 := blk_frozen BK115.out 7; have hfz59_8 := blk_frozen BK115.out 8; have hfz59_9 := blk_frozen BK115.out 9; have hfz59_10 := blk_frozen BK115.out 10; have hfz59_11 := blk_frozen BK115.out 11; have hfz59_12 := blk_frozen BK115.out 12; have hfz59_13 := blk_frozen BK115.out 13; have hfz59_14 := blk_frozen BK115.out 14; have hfz59_15 := blk_frozen BK115.out 15; have hfz59_16 := blk_frozen BK115.out 16) | (go_at_call 25; (with_reducible refine (spec_IdentifiersKnown.calls k4 _ _ l0_15 t126 _ ?side1 ?side2 A52.out).mono ?_); (case side1 => repeat (first | exact (Kd.C_below HR0_15.out HB.out) | (with_reducible refine Kd.C_alloc ?_ _) | (with_reducible refine Kd.C_drewN ?_ _) | (with_reducible refine Kd.C_drew ?_))); (case side2 => exact HC0_15.out); rintro e w' ⟨rfl, ⟨nd, rfl⟩⟩))
                                go_ret
                                exact ⟨by first | rfl | (simp [errW_none, errW_some] <;> rfl) | (simp [*, errW_none, errW_some] <;> rfl) | (simp [bne_nil_]; done), by repeat (first | (with_reducible first | exact HB.out | apply below_alloc | apply pw_below_drewN | apply below_drew1 | refine below_set ?_ GE115.out) | exact HB.out)⟩
                              · replace c51 := Bool.eq_false_iff.mpr c51
                                subst c51
                                have H1 : (some false) = some r := by rw [if_neg (show ¬ (false = true) by decide)] at H; exact H
                                clear H
                                have H := H1
                                clear H1
                                obtain rfl := Option.some.inj H
                                have hcz60_0 : wr.cell? ⟨gb115, 0, none⟩ = some (.bool a0_0) := (blk_cell BK115.out 0).trans rfl
                                have hcz60_1 : wr.cell? ⟨gb115, 1, none⟩ = some (.string a0_1) := (blk_cell BK115.out 1).trans rfl
                                have hcz60_2 : wr.cell? ⟨gb115, 2, none⟩ = some (.slice A0_2 l0_2.length c0_2) := (blk_cell BK115.out 2).trans rfl
                                have hcz60_3 : wr.cell? ⟨gb115, 3, none⟩ = some (.bool a0_3) := (blk_cell BK115.out 3).trans rfl
                                have hcz60_4 : wr.cell? ⟨gb115, 4, none⟩ = some (.string a0_4) := (blk_cell BK115.out 4).trans rfl
                                have hcz60_5 : wr.cell? ⟨gb115, 5, none⟩ = some (.bool a0_5) := (blk_cell BK115.out 5).trans rfl
                                have hcz60_6 : wr.cell? ⟨gb115, 6, none⟩ = some (.string a0_6) := (blk_cell BK115.out 6).trans rfl
                                have hcz60_7 : wr.cell? ⟨gb115, 7, none⟩ = some (.bool a0_7) := (blk_cell BK115.out 7).trans rfl
                                have hcz60_8 : wr.cell? ⟨gb115, 8, none⟩ = some (.string a0_8) := (blk_cell BK115.out 8).trans rfl
                                have hcz60_9 : wr.cell? ⟨gb115, 9, none⟩ = some (.bool a0_9) := (blk_cell BK115.out 9).trans rfl
                                have hcz60_10 : wr.cell? ⟨gb115, 10, none⟩ = some (.string a0_10) := (blk_cell BK115.out 10).trans rfl
                                have hcz60_11 : wr.cell? ⟨gb115, 11, none⟩ = some (.bool a0_11) := (blk_cell BK115.out 11).trans rfl
                                have hcz60_12 : wr.cell? ⟨gb115, 12, none⟩ = some (.string a0_12) := (blk_cell BK115.out 12).trans rfl
                                have hcz60_13 : wr.cell? ⟨gb115, 13, none⟩ = some (.bool a0_13) := (blk_cell BK115.out 13).trans rfl
                                have hcz60_14 : wr.cell? ⟨gb115, 14, none⟩ = some (.string a0_14) := (blk_cell BK115.out 14).trans rfl
                                have hcz60_15 : wr.cell? ⟨gb115, 15, none⟩ = some (.slice A0_15 l0_15.length c0_15) := (blk_cell BK115.out 15).trans rfl
                                have hcz60_16 : wr.cell? ⟨gb115, 16, none⟩ = some (.slice A0_16 l0_16.length c0_16) := (blk_cell BK115.out 16).trans rfl
                                have hfz60_0 := blk_frozen BK115.out 0
                                have hfz60_1 := blk_frozen BK115.out 1
                                have hfz60_2 := blk_frozen BK115.out 2
                                have hfz60_3 := blk_frozen BK115.out 3
                                have hfz60_4 := blk_frozen BK115.out 4
                                have hfz60_5 := blk_frozen BK115.out 5
                                have hfz60_6 := blk_frozen BK115.out 6
                                have hfz60_7 := blk_frozen BK115.out 7
                                have hfz60_8 := blk_frozen BK115.out 8
                                have hfz60_9 := blk_frozen BK115.out 9
                                have hfz60_10 := blk_frozen BK115.out 10
                                have hfz60_11 := blk_frozen BK115.out 11
                                have hfz60_12 := blk_frozen BK115.out 12
                                have hfz60_13 := blk_frozen BK115.out 13
                                have hfz60_14 := blk_frozen BK115.out 14
                                have hfz60_15 := blk_frozen BK115.out 15
                                have hfz60_16 := blk_frozen BK115.out 16
                                go_wp2_with (first | ((with_reducible refine gate_callee (f := 24) rfl ?_); refine goesL_ (some 70) rfl rfl Tryz.func24 (by kernel_rfl) rfl #[.agg #[.bool a0_3, .string a0_4, .bool a0_5, .string a0_6]] rfl (by (try simp only [List.map_toArray, List.map_cons, List.map_nil]); first | done | rfl | (simp only [List.length_drop, List.length_take]; rfl)) ?_; (with_reducible refine (spec_pypiLetterOK.calls k4 a0_3 a0_4 a0_5 a0_6 true _ A46.out).mono ?_); rintro e w61 ⟨rfl, hb⟩; refine ⟨_, rfl, ?_⟩; have n0_ := Aside0.mk (blk_below (g := gb115) (o := .cells #[.bool a0_0, .string a0_1, .slice A0_2 l0_2.length c0_2, .bool a0_3, .string a0_4, .bool a0_5, .string a0_6, .bool a0_7, .string a0_8, .bool a0_9, .string a0_10, .bool a0_11, .string a0_12, .bool a0_13, .string a0_14, .slice A0_15 l0_15.length c0_15, .slice A0_16 l0_16.length c0_16] 29 (0, 0)) (by (with_reducible repeat (first | refine blk_drewN ?_ _ | refine blk_drew ?_ | refine blk_alloc ?_ _)); exact BK115.out) hb); have n1_ := Aside0.mk (below_step (by repeat (first | (with_reducible first | exact HB.out | apply below_alloc | apply pw_below_drewN | apply below_drew1 | refine below_set ?_ GE115.out) | exact HB.out)) hb); clear BK115; clear HB; have BK115 := n0_; have HB := n1_; clear n0_ n1_; (try clear hb); (try clear hb2); (try clear hk); (try clear hi); have hcz62_0 : w61.cell? ⟨gb115, 0, none⟩ = some (.bool a0_0) := (blk_cell BK115.out 0).trans rfl; have hcz62_1 : w61.cell? ⟨gb115, 1, none⟩ = some (.string a0_1) := (blk_cell BK115.out 1).trans rfl; have hcz62_2 : w61.cell? ⟨gb115, 2, none⟩ = some (.slice A0_2 l0_2.length c0_2) := (blk_cell BK115.out 2).trans rfl; have hcz62_3 : w61.cell? ⟨gb115, 3, none⟩ = some (.bool a0_3) := (blk_cell BK115.out 3).trans rfl; have hcz62_4 : w61.cell? ⟨gb115, 4, none⟩ = some (.string a0_4) := (blk_cell BK115.out 4).trans rfl; have hcz62_5 : w61.cell? ⟨gb115, 5, none⟩ = some (.bool a0_5) := (blk_cell BK115.out 5).trans rfl; have hcz62_6 : w61.cell? ⟨gb115, 6, none⟩ = some (.string a0_6) := (blk_cell BK115.out 6).trans rfl; have hcz62_7 : w61.cell? ⟨gb115, 7, none⟩ = some (.bool a0_7) := (blk_cell BK115.out 7).trans rfl; have hcz62_8 : w61.cell? ⟨gb115, 8, none⟩ = some (.string a0_8) := (blk_cell BK115.out 8).trans rfl; have hcz62_9 : w61.cell? ⟨gb115, 9, none⟩ = some (.bool a0_9) := (blk_cell BK115.out 9).trans rfl; have hcz62_10 : w61.cell? ⟨gb115, 10, none⟩ = some (.string a0_10) := (blk_cell BK115.out 10).trans rfl; have hcz62_11 : w61.cell? ⟨gb115, 11, none⟩ = some (.bool a0_11) := (blk_cell BK115.out 11).trans rfl; have hcz62_12 : w61.cell? ⟨gb115, 12, none⟩ = some (.string a0_12) := (blk_cell BK115.out 12).trans rfl; have hcz62_13 : w61.cell? ⟨gb115, 13, none⟩ = some (.bool a0_13) := (blk_cell BK115.out 13).trans rfl; have hcz62_14 : w61.cell? ⟨gb115, 14, none⟩ = some (.string a0_14) := (blk_cell BK115.out 14).trans rfl; have hcz62_15 : w61.cell? ⟨gb115, 15, none⟩ = some (.slice A0_15 l0_15.length c0_15) := (blk_cell BK115.out 15).trans rfl; have hcz62_16 : w61.cell? ⟨gb115, 16, none⟩ = some (.slice A0_16 l0_16.length c0_16) := (blk_cell BK115.out 16).trans rfl; have hfz62_0 := blk_frozen BK115.out 0; have hfz62_1 := blk_frozen BK115.out 1; have hfz62_2 := blk_frozen BK115.out 2; have hfz62_3 := blk_frozen BK115.out 3; have hfz62_4 := blk_frozen BK115.out 4; have hfz62_5 := blk_frozen BK115.out 5; have hfz62_6 := blk_frozen BK115.out 6; have hfz62_7 := blk_frozen BK115.out 7; have hfz62_8 := blk_frozen BK115.out 8; have hfz62_9 := blk_frozen BK115.out 9; have hfz62_10 := blk_frozen BK115.out 10; have hfz62_11 := blk_frozen BK115.out 11; have hfz62_12 := blk_frozen BK115.out 12; have hfz62_13 := blk_frozen BK115.out 13; have hfz62_14 := blk_frozen BK115.out 14; have hfz62_15 := blk_frozen BK115.out 15; have hfz62_16 := blk_frozen BK115.out 16) | (go_at_call 24; (with_reducible refine (spec_pypiLetterOK.calls k4 a0_7 a0_8 a0_9 a0_10 true _ A48.out).mono ?_); rintro e w63 ⟨rfl, hb⟩; have n0_ := Aside0.mk (blk_below (g := gb115) (o := .cells #[.bool a0_0, .string a0_1, .slice A0_2 l0_2.length c0_2, .bool a0_3, .string a0_4, .bool a0_5, .string a0_6, .bool a0_7, .string a0_8, .bool a0_9, .string a0_10, .bool a0_11, .string a0_12, .bool a0_13, .string a0_14, .slice A0_15 l0_15.length c0_15, .slice A0_16 l0_16.length c0_16] 29 (0, 0)) (by (with_reducible repeat (first | refine blk_drewN ?_ _ | refine blk_drew ?_ | refine blk_alloc ?_ _)); exact BK115.out) hb); have n1_ := Aside0.mk (below_step (by repeat (first | (with_reducible first | exact HB.out | apply below_alloc | apply pw_below_drewN | apply below_drew1 | refine below_set ?_ GE115.out) | exact HB.out)) hb); clear BK115; clear HB; have BK115 := n0_; have HB := n1_; clear n0_ n1_; (try clear hb); (try clear hb2); (try clear hk); (try clear hi); have hcz64_0 : w63.cell? ⟨gb115, 0, none⟩ = some (.bool a0_0) := (blk_cell BK115.out 0).trans rfl; have hcz64_1 : w63.cell? ⟨gb115, 1, none⟩ = some (.string a0_1) := (blk_cell BK115.out 1).trans rfl; have hcz64_2 : w63.cell? ⟨gb115, 2, none⟩ = some (.slice A0_2 l0_2.length c0_2) := (blk_cell BK115.out 2).trans rfl; have hcz64_3 : w63.cell? ⟨gb115, 3, none⟩ = some (.bool a0_3) := (blk_cell BK115.out 3).trans rfl; have hcz64_4 : w63.cell? ⟨gb115, 4, none⟩ = some (.string a0_4) := (blk_cell BK115.out 4).trans rfl; have hcz64_5 : w63.cell? ⟨gb115, 5, none⟩ = some (.bool a0_5) := (blk_cell BK115.out 5).trans rfl; have hcz64_6 : w63.cell? ⟨gb115, 6, none⟩ = some (.string a0_6) := (blk_cell BK115.out 6).trans rfl; have hcz64_7 : w63.cell? ⟨gb115, 7, none⟩ = some (.bool a0_7) := (blk_cell BK115.out 7).trans rfl; have hcz64_8 : w63.cell? ⟨gb115, 8, none⟩ = some (.string a0_8) := (blk_cell BK115.out 8).trans rfl; have hcz64_9 : w63.cell? ⟨gb115, 9, none⟩ = some (.bool a0_9) := (blk_cell BK115.out 9).trans rfl; have hcz64_10 : w63.cell? ⟨gb115, 10, none⟩ = some (.string a0_10) := (blk_cell BK115.out 10).trans rfl; have hcz64_11 : w63.cell? ⟨gb115, 11, none⟩ = some (.bool a0_11) := (blk_cell BK115.out 11).trans rfl; have hcz64_12 : w63.cell? ⟨gb115, 12, none⟩ = some (.string a0_12) := (blk_cell BK115.out 12).trans rfl; have hcz64_13 : w63.cell? ⟨gb115, 13, none⟩ = some (.bool a0_13) := (blk_cell BK115.out 13).trans rfl; have hcz64_14 : w63.cell? ⟨gb115, 14, none⟩ = some (.string a0_14) := (blk_cell BK115.out 14).trans rfl; have hcz64_15 : w63.cell? ⟨gb115, 15, none⟩ = some (.slice A0_15 l0_15.length c0_15) := (blk_cell BK115.out 15).trans rfl; have hcz64_16 : w63.cell? ⟨gb115, 16, none⟩ = some (.slice A0_16 l0_16.length c0_16) := (blk_cell BK115.out 16).trans rfl; have hfz64_0 := blk_frozen BK115.out 0; have hfz64_1 := blk_frozen BK115.out 1; have hfz64_2 := blk_frozen BK115.out 2; have hfz64_3 := blk_frozen BK115.out 3; have hfz64_4 := blk_frozen BK115.out 4; have hfz64_5 := blk_frozen BK115.out 5; have hfz64_6 := blk_frozen BK115.out 6; have hfz64_7 := blk_frozen BK115.out 7; have hfz64_8 := blk_frozen BK115.out 8; have hfz64_9 := blk_frozen BK115.out 9; have hfz64_10 := blk_frozen BK115.out 10; have hfz64_11 := blk_frozen BK115.out 11; have hfz64_12 := blk_frozen BK115.out 12; have hfz64_13 := blk_frozen BK115.out 13; have hfz64_14 := blk_frozen BK115.out 14; have hfz64_15 := blk_frozen BK115.out 15; have hfz64_16 := blk_frozen BK115.out 16) | (go_at_call 24; (with_reducible refine (spec_pypiLetterOK.calls k4 a0_11 a0_12 a0_13 a0_14 false _ A50.out).mono ?_); rintro e w65 ⟨rfl, hb⟩; have n0_ := Aside0.mk (blk_below (g := gb115) (o := .cells #[.bool a0_0, .string a0_1, .slice A0_2 l0_2.length c0_2, .bool a0_3, .string a0_4, .bool a0_5, .string a0_6, .bool a0_7, .string a0_8, .bool a0_9, .string a0_10, .bool a0_11, .string a0_12, .bool a0_13, .string a0_14, .slice A0_15 l0_15.length c0_15, .slice A0_16 l0_16.length c0_16] 29 (0, 0)) (by (with_reducible repeat (first | refine blk_drewN ?_ _ | refine blk_drew ?_ | refine blk_alloc ?_ _)); exact BK115.out) hb); have n1_ := Aside0.mk (below_step (by repeat (first | (with_reducible first | exact HB.out | apply below_alloc | apply pw_below_drewN | apply below_drew1 | refine below_set ?_ GE115.out) | exact HB.out)) hb); clear BK115; clear HB; have BK115 := n0_; have HB := n1_; clear n0_ n1_; (try clear hb); (try clear hb2); (try clear hk); (try clear hi)))
                                go_ret
                                exact ⟨by first | rfl | (simp [errW_none, errW_some] <;> rfl) | (simp [*, errW_none, errW_some] <;> rfl) | (simp [bne_nil_]; done), by repeat (first | (with_reducible first | exact HB.out | apply below_alloc | apply pw_below_drewN | apply below_drew1 | refine below_set ?_ GE115.out) | exact HB.out)⟩
                            · replace c49 := Bool.eq_false_iff.mpr c49
                              subst c49
                              have H1 : (some false) = some r := by rw [if_neg (show ¬ (false = true) by decide)] at H; exact H
                              clear H
                              have H := H1
                              clear H1
                              obtain rfl := Option.some.inj H
                              have hcz66_0 : wr.cell? ⟨gb115, 0, none⟩ = some (.bool a0_0) := (blk_cell BK115.out 0).trans rfl
                              have hcz66_1 : wr.cell? ⟨gb115, 1, none⟩ = some (.string a0_1) := (blk_cell BK115.out 1).trans rfl
                              have hcz66_2 : wr.cell? ⟨gb115, 2, none⟩ = some (.slice A0_2 l0_2.length c0_2) := (blk_cell BK115.out 2).trans rfl
                              have hcz66_3 : wr.cell? ⟨gb115, 3, none⟩ = some (.bool a0_3) := (blk_cell BK115.out 3).trans rfl
                              have hcz66_4 : wr.cell? ⟨gb115, 4, none⟩ = some (.string a0_4) := (blk_cell BK115.out 4).trans rfl
                              have hcz66_5 : wr.cell? ⟨gb115, 5, none⟩ = some (.bool a0_5) := (blk_cell BK115.out 5).trans rfl
                              have hcz66_6 : wr.cell? ⟨gb115, 6, none⟩ = some (.string a0_6) := (blk_cell BK115.out 6).trans rfl
                              have hcz66_7 : wr.cell? ⟨gb115, 7, none⟩ = some (.bool a0_7) := (blk_cell BK115.out 7).trans rfl
                              have hcz66_8 : wr.cell? ⟨gb115, 8, none⟩ = some (.string a0_8) := (blk_cell BK115.out 8).trans rfl
                              have hcz66_9 : wr.cell? ⟨gb115, 9, none⟩ = some (.bool a0_9) := (blk_cell BK115.out 9).trans rfl
                              have hcz66_10 : wr.cell? ⟨gb115, 10, none⟩ = some (.string a0_10) := (blk_cell BK115.out 10).trans rfl
                              have hcz66_11 : wr.cell? ⟨gb115, 11, none⟩ = some (.bool a0_11) := (blk_cell BK115.out 11).trans rfl
                              have hcz66_12 : wr.cell? ⟨gb115, 12, none⟩ = some (.string a0_12) := (blk_cell BK115.out 12).trans rfl
                              have hcz66_13 : wr.cell? ⟨gb115, 13, none⟩ = some (.bool a0_13) := (blk_cell BK115.out 13).trans rfl
                              have hcz66_14 : wr.cell? ⟨gb115, 14, none⟩ = some (.string a0_14) := (blk_cell BK115.out 14).trans rfl
                              have hcz66_15 : wr.cell? ⟨gb115, 15, none⟩ = some (.slice A0_15 l0_15.length c0_15) := (blk_cell BK115.out 15).trans rfl
                              have hcz66_16 : wr.cell? ⟨gb115, 16, none⟩ = some (.slice A0_16 l0_16.length c0_16) := (blk_cell BK115.out 16).trans rfl
                              have hfz66_0 := blk_frozen BK115.out 0
                              have hfz66_1 := blk_frozen BK115.out 1
                              have hfz66_2 := blk_frozen BK115.out 2
                              have hfz66_3 := blk_frozen BK115.out 3
                              have hfz66_4 := blk_frozen BK115.out 4
                              have hfz66_5 := blk_frozen BK115.out 5
                              have hfz66_6 := blk_frozen BK115.out 6
                              have hfz66_7 := blk_frozen BK115.out 7
                              have hfz66_8 := blk_frozen BK115.out 8
                              have hfz66_9 := blk_frozen BK115.out 9
                              have hfz66_10 := blk_frozen BK115.out 10
                              have hfz66_11 := blk_frozen BK115.out 11
                              have hfz66_12 := blk_frozen BK115.out 12
                              have hfz66_13 := blk_frozen BK115.out 13
                              have hfz66_14 := blk_frozen BK115.out 14
                              have hfz66_15 := blk_frozen BK115.out 15
                              have hfz66_16 := blk_frozen BK115.out 16
                              go_wp2_with (first | ((with_reducible refine gate_callee (f := 24) rfl ?_); refine goesL_ (some 70) rfl rfl Tryz.func24 (by kernel_rfl) rfl #[.agg #[.bool a0_3, .string a0_4, .bool a0_5, .string a0_6]] rfl (by (try simp only [List.map_toArray, List.map_cons, List.map_nil]); first | done | rfl | (simp only [List.length_drop, List.length_take]; rfl)) ?_; (with_reducible refine (spec_pypiLetterOK.calls k4 a0_3 a0_4 a0_5 a0_6 true _ A46.out).mono ?_); rintro e w67 ⟨rfl, hb⟩; refine ⟨_, rfl, ?_⟩; have n0_ := Aside0.mk (blk_below (g := gb115) (o := .cells #[.bool a0_0, .string a0_1, .slice A0_2 l0_2.length c0_2, .bool a0_3, .string a0_4, .bool a0_5, .string a0_6, .bool a0_7, .string a0_8, .bool a0_9, .string a0_10, .bool a0_11, .string a0_12, .bool a0_13, .string a0_14, .slice A0_15 l0_15.length c0_15, .slice A0_16 l0_16.length c0_16] 29 (0, 0)) (by (with_reducible repeat (first | refine blk_drewN ?_ _ | refine blk_drew ?_ | refine blk_alloc ?_ _)); exact BK115.out) hb); have n1_ := Aside0.mk (below_step (by repeat (first | (with_reducible first | exact HB.out | apply below_alloc | apply pw_below_drewN | apply below_drew1 | refine below_set ?_ GE115.out) | exact HB.out)) hb); clear BK115; clear HB; have BK115 := n0_; have HB := n1_; clear n0_ n1_; (try clear hb); (try clear hb2); (try clear hk); (try clear hi); have hcz68_0 : w67.cell? ⟨gb115, 0, none⟩ = some (.bool a0_0) := (blk_cell BK115.out 0).trans rfl; have hcz68_1 : w67.cell? ⟨gb115, 1, none⟩ = some (.string a0_1) := (blk_cell BK115.out 1).trans rfl; have hcz68_2 : w67.cell? ⟨gb115, 2, none⟩ = some (.slice A0_2 l0_2.length c0_2) := (blk_cell BK115.out 2).trans rfl; have hcz68_3 : w67.cell? ⟨gb115, 3, none⟩ = some (.bool a0_3) := (blk_cell BK115.out 3).trans rfl; have hcz68_4 : w67.cell? ⟨gb115, 4, none⟩ = some (.string a0_4) := (blk_cell BK115.out 4).trans rfl; have hcz68_5 : w67.cell? ⟨gb115, 5, none⟩ = some (.bool a0_5) := (blk_cell BK115.out 5).trans rfl; have hcz68_6 : w67.cell? ⟨gb115, 6, none⟩ = some (.string a0_6) := (blk_cell BK115.out 6).trans rfl; have hcz68_7 : w67.cell? ⟨gb115, 7, none⟩ = some (.bool a0_7) := (blk_cell BK115.out 7).trans rfl; have hcz68_8 : w67.cell? ⟨gb115, 8, none⟩ = some (.string a0_8) := (blk_cell BK115.out 8).trans rfl; have hcz68_9 : w67.cell? ⟨gb115, 9, none⟩ = some (.bool a0_9) := (blk_cell BK115.out 9).trans rfl; have hcz68_10 : w67.cell? ⟨gb115, 10, none⟩ = some (.string a0_10) := (blk_cell BK115.out 10).trans rfl; have hcz68_11 : w67.cell? ⟨gb115, 11, none⟩ = some (.bool a0_11) := (blk_cell BK115.out 11).trans rfl; have hcz68_12 : w67.cell? ⟨gb115, 12, none⟩ = some (.string a0_12) := (blk_cell BK115.out 12).trans rfl; have hcz68_13 : w67.cell? ⟨gb115, 13, none⟩ = some (.bool a0_13) := (blk_cell BK115.out 13).trans rfl; have hcz68_14 : w67.cell? ⟨gb115, 14, none⟩ = some (.string a0_14) := (blk_cell BK115.out 14).trans rfl; have hcz68_15 : w67.cell? ⟨gb115, 15, none⟩ = some (.slice A0_15 l0_15.length c0_15) := (blk_cell BK115.out 15).trans rfl; have hcz68_16 : w67.cell? ⟨gb115, 16, none⟩ = some (.slice A0_16 l0_16.length c0_16) := (blk_cell BK115.out 16).trans rfl; have hfz68_0 := blk_frozen BK115.out 0; have hfz68_1 := blk_frozen BK115.out 1; have hfz68_2 := blk_frozen BK115.out 2; have hfz68_3 := blk_frozen BK115.out 3; have hfz68_4 := blk_frozen BK115.out 4; have hfz68_5 := blk_frozen BK115.out 5; have hfz68_6 := blk_frozen BK115.out 6; have hfz68_7 := blk_frozen BK115.out 7; have hfz68_8 := blk_frozen BK115.out 8; have hfz68_9 := blk_frozen BK115.out 9; have hfz68_10 := blk_frozen BK115.out 10; have hfz68_11 := blk_frozen BK115.out 11; have hfz68_12 := blk_frozen BK115.out 12; have hfz68_13 := blk_frozen BK115.out 13; have hfz68_14 := blk_frozen BK115.out 14; have hfz68_15 := blk_frozen BK115.out 15; have hfz68_16 := blk_frozen BK115.out 16) | (go_at_call 24; (with_reducible refine (spec_pypiLetterOK.calls k4 a0_7 a0_8 a0_9 a0_10 false _ A48.out).mono ?_); rintro e w69 ⟨rfl, hb⟩; have n0_ := Aside0.mk (blk_below (g := gb115) (o := .cells #[.bool a0_0, .string a0_1, .slice A0_2 l0_2.length c0_2, .bool a0_3, .string a0_4, .bool a0_5, .string a0_6, .bool a0_7, .string a0_8, .bool a0_9, .string a0_10, .bool a0_11, .string a0_12, .bool a0_13, .string a0_14, .slice A0_15 l0_15.length c0_15, .slice A0_16 l0_16.length c0_16] 29 (0, 0)) (by (with_reducible repeat (first | refine blk_drewN ?_ _ | refine blk_drew ?_ | refine blk_alloc ?_ _)); exact BK115.out) hb); have n1_ := Aside0.mk (below_step (by repeat (first | (with_reducible first | exact HB.out | apply below_alloc | apply pw_below_drewN | apply below_drew1 | refine below_set ?_ GE115.out) | exact HB.out)) hb); clear BK115; clear HB; have BK115 := n0_; have HB := n1_; clear n0_ n1_; (try clear hb); (try clear hb2); (try clear hk); (try clear hi)))
                              go_ret
                              exact ⟨by first | rfl | (simp [errW_none, errW_some] <;> rfl) | (simp [*, errW_none, errW_some] <;> rfl) | (simp [bne_nil_]; done), by repeat (first | (with_reducible first | exact HB.out | apply below_alloc | apply pw_below_drewN | apply below_drew1 | refine below_set ?_ GE115.out) | exact HB.out)⟩
                          · replace c47 := Bool.eq_false_iff.mpr c47
                            subst c47
                            have H1 : (some false) = some r := by rw [if_neg (show ¬ (false = true) by decide)] at H; exact H
                            clear H
                            have H := H1
                            clear H1
                            obtain rfl := Option.some.inj H
                            have hcz70_0 : wr.cell? ⟨gb115, 0, none⟩ = some (.bool a0_0) := (blk_cell BK115.out 0).trans rfl
                            have hcz70_1 : wr.cell? ⟨gb115, 1, none⟩ = some (.string a0_1) := (blk_cell BK115.out 1).trans rfl
                            have hcz70_2 : wr.cell? ⟨gb115, 2, none⟩ = some (.slice A0_2 l0_2.length c0_2) := (blk_cell BK115.out 2).trans rfl
                            have hcz70_3 : wr.cell? ⟨gb115, 3, none⟩ = some (.bool a0_3) := (blk_cell BK115.out 3).trans rfl
                            have hcz70_4 : wr.cell? ⟨gb115, 4, none⟩ = some (.string a0_4) := (blk_cell BK115.out 4).trans rfl
                            have hcz70_5 : wr.cell? ⟨gb115, 5, none⟩ = some (.bool a0_5) := (blk_cell BK115.out 5).trans rfl
                            have hcz70_6 : wr.cell? ⟨gb115, 6, none⟩ = some (.string a0_6) := (blk_cell BK115.out 6).trans rfl
                            have hcz70_7 : wr.cell? ⟨gb115, 7, none⟩ = some (.bool a0_7) := (blk_cell BK115.out 7).trans rfl
                            have hcz70_8 : wr.cell? ⟨gb115, 8, none⟩ = some (.string a0_8) := (blk_cell BK115.out 8).trans rfl
                            have hcz70_9 : wr.cell? ⟨gb115, 9, none⟩ = some (.bool a0_9) := (blk_cell BK115.out 9).trans rfl
                            have hcz70_10 : wr.cell? ⟨gb115, 10, none⟩ = some (.string a0_10) := (blk_cell BK115.out 10).trans rfl
                            have hcz70_11 : wr.cell? ⟨gb115, 11, none⟩ = some (.bool a0_11) := (blk_cell BK115.out 11).trans rfl
                            have hcz70_12 : wr.cell? ⟨gb115, 12, none⟩ = some (.string a0_12) := (blk_cell BK115.out 12).trans rfl
                            have hcz70_13 : wr.cell? ⟨gb115, 13, none⟩ = some (.bool a0_13) := (blk_cell BK115.out 13).trans rfl
                            have hcz70_14 : wr.cell? ⟨gb115, 14, none⟩ = some (.string a0_14) := (blk_cell BK115.out 14).trans rfl
                            have hcz70_15 : wr.cell? ⟨gb115, 15, none⟩ = some (.slice A0_15 l0_15.length c0_15) := (blk_cell BK115.out 15).trans rfl
                            have hcz70_16 : wr.cell? ⟨gb115, 16, none⟩ = some (.slice A0_16 l0_16.length c0_16) := (blk_cell BK115.out 16).trans rfl
                            have hfz70_0 := blk_frozen BK115.out 0
                            have hfz70_1 := blk_frozen BK115.out 1
                            have hfz70_2 := blk_frozen BK115.out 2
                            have hfz70_3 := blk_frozen BK115.out 3
                            have hfz70_4 := blk_frozen BK115.out 4
                            have hfz70_5 := blk_frozen BK115.out 5
                            have hfz70_6 := blk_frozen BK115.out 6
                            have hfz70_7 := blk_frozen BK115.out 7
                            have hfz70_8 := blk_frozen BK115.out 8
                            have hfz70_9 := blk_frozen BK115.out 9
                            have hfz70_10 := blk_frozen BK115.out 10
                            have hfz70_11 := blk_frozen BK115.out 11
                            have hfz70_12 := blk_frozen BK115.out 12
                            have hfz70_13 := blk_frozen BK115.out 13
                            have hfz70_14 := blk_frozen BK115.out 14
                            have hfz70_15 := blk_frozen BK115.out 15
                            have hfz70_16 := blk_frozen BK115.out 16
                            go_wp2_with (first | ((with_reducible refine gate_callee (f := 24) rfl ?_); refine goesL_ (some 70) rfl rfl Tryz.func24 (by kernel_rfl) rfl #[.agg #[.bool a0_3, .string a0_4, .bool a0_5, .string a0_6]] rfl (by (try simp only [List.map_toArray, List.map_cons, List.map_nil]); first | done | rfl | (simp only [List.length_drop, List.length_take]; rfl)) ?_; (with_reducible refine (spec_pypiLetterOK.calls k4 a0_3 a0_4 a0_5 a0_6 false _ A46.out).mono ?_); rintro e w71 ⟨rfl, hb⟩; refine ⟨_, rfl, ?_⟩; have n0_ := Aside0.mk (blk_below (g := gb115) (o := .cells #[.bool a0_0, .string a0_1, .slice A0_2 l0_2.length c0_2, .bool a0_3, .string a0_4, .bool a0_5, .string a0_6, .bool a0_7, .string a0_8, .bool a0_9, .string a0_10, .bool a0_11, .string a0_12, .bool a0_13, .string a0_14, .slice A0_15 l0_15.length c0_15, .slice A0_16 l0_16.length c0_16] 29 (0, 0)) (by (with_reducible repeat (first | refine blk_drewN ?_ _ | refine blk_drew ?_ | refine blk_alloc ?_ _)); exact BK115.out) hb); have n1_ := Aside0.mk (below_step (by repeat (first | (with_reducible first | exact HB.out | apply below_alloc | apply pw_below_drewN | apply below_drew1 | refine below_set ?_ GE115.out) | exact HB.out)) hb); clear BK115; clear HB; have BK115 := n0_; have HB := n1_; clear n0_ n1_; (try clear hb); (try clear hb2); (try clear hk); (try clear hi)))
                            go_ret
                            exact ⟨by first | rfl | (simp [errW_none, errW_some] <;> rfl) | (simp [*, errW_none, errW_some] <;> rfl) | (simp [bne_nil_]; done), by repeat (first | (with_reducible first | exact HB.out | apply below_alloc | apply pw_below_drewN | apply below_drew1 | refine below_set ?_ GE115.out) | exact HB.out)⟩

end Go.Proofs.YtfmndbmlpfgbnaaGreatDoor.QY
