/- Contracts by hand: strings.ToLower of texts of bytes below 128. -/
import Derived.Test.YtchbfjjeodnocaaDoorGivLw
import Derived.Test.YtchbfjjeodnocaaDoorZD
import Derived.Test.YtchbfjjeodnocaaDoorWMore
namespace Go.Proofs.YtchbfjjeodnocaaDoor.Giv
open Go.RowKit Go.Proofs.YtchbfjjeodnocaaDoorW.PrintWords Go.Proofs.YtchbfjjeodnocaaDoorW.PrintLast
set_option linter.unusedSimpArgs false
set_option linter.unusedVariables false

/-- A text in small letters. -/
def low (s : ByteArray) : ByteArray := ⟨(Lib.toLowerA s.data.toList).toArray⟩
set_option maxHeartbeats 4000000 in
set_option maxRecDepth 100000 in
theorem toLower_calls (s : ByteArray) (w : World) (hs : s.size ≤ 140737488355328) (ha : ∀ (j : Nat) (b : UInt8), s.data.toList[j]? = some b → b.toNat < 128) :
    Calls Tryd.prog 136 #[.string s] w fun e w' => e = .returned (.string ⟨(Lib.toLowerA s.data.toList).toArray⟩) ∧ Below w.heap.size w w' := by
  have HA := Aside0.mk ha
  clear ha
  go_enter Tryd.func136, Tryd.ntmps136
  go_wp2
  go_loop [3, 4, 5] (fun a h i => ∃ k : Nat, k ≤ s.size ∧ a = .bool true ∧ h = .bool ((s.data.toList.take k).any Lib.isUpperB) ∧ i = .int .i64 k) (fun _ _ i => s.size - (match i with | .int _ n => n.toNat | _ => 0))
  case atStart => exact ⟨0, Nat.zero_le _, rfl, rfl, rfl⟩
  case round =>
    obtain ⟨k, hk, rfl, rfl, rfl⟩ := hrel
    generalize hH : (s.data.toList.take k).any Lib.isUpperB = H
    by_cases hlt : k < s.size
    · have hb : s.data.toList[k]? = some (s[k]'hlt) := by
        rw [Array.getElem?_toList]
        exact Array.getElem?_eq_getElem hlt
      have h128 : ¬ (128 : Int) ≤ ((s[k]'hlt).toNat : Int) := by have := HA.out k _ hb; omega
      have hnext : (s.data.toList.take (k + 1)).any Lib.isUpperB = (H || (decide ((65 : Int) ≤ ((s[k]'hlt).toNat : Int)) && decide (((s[k]'hlt).toNat : Int) ≤ 90))) := by
        rw [Lib.any_take_succ _ _ _ _ hb, hH, Lib.isUpperB_int]
      have Hn := Aside0.mk hnext
      clear hb hnext hH
      go_wp2
      all_goals (
        refine ⟨⟨k + 1, by omega, rfl, ?_, by go_num⟩, by simp; omega⟩
        rw [Hn.out]
        first
          | (simp_all; done)
          | (simp_all; omega))
    · obtain rfl : k = s.size := by omega
      have hall : s.data.toList.take s.size = s.data.toList := by rw [Lib.size_eq, List.take_length]
      rw [hall] at hH
      have HH := Aside0.mk hH
      clear hH hall
      cases H with
      | false =>
        go_wp2
        go_ret
        refine ⟨?_, Below.refl _ _⟩
        show Ending.returned (Value.string s) = _
        rw [Lib.toLowerA, Lib.map_of_none Lib.lowerB Lib.isUpperB Lib.lowerB_of_not _ HH.out, Lib.mk_data]
      | true =>
        go_wp2_with (go_at_call 155; refine (wr_grown s.size w (by omega)).mono ?_; rintro e w1 ⟨rfl, h1⟩; have H1 := Aside0.mk h1; clear h1)
        go_loopw [8, 9] (fun pos i wr => ∃ p k : Nat, p ≤ k ∧ k ≤ s.size ∧ pos = .int .i64 p ∧ i = .int .i64 k ∧ Aside0 (Wr w.heap.size w.heap.size ((s.data.toList.take p).map Lib.lowerB) w wr) ∧ Aside0 (((s.data.toList.drop p).take (k - p)).any Lib.isUpperB = false)) (fun _ i _ => s.size - (match i with | .int _ n => n.toNat | _ => 0))
        case atStart => exact ⟨0, 0, Nat.le_refl _, Nat.zero_le _, rfl, rfl, H1, Aside0.mk rfl⟩
        case round =>
          obtain ⟨p, k, hpk, hk2, rfl, rfl, HB, HN⟩ := hrel
          by_cases hlt2 : k < s.size
          · have hb : s.data.toList[k]? = some (s[k]'hlt2) := by
              rw [Array.getElem?_toList]
              exact Array.getElem?_eq_getElem hlt2
            have Hb := Aside0.mk hb
            clear hb
            by_cases hlow : Lib.isUpperB (s[k]'hlt2) = true
            · have h97 : (65 : Int) ≤ ((s[k]'hlt2).toNat : Int) := by
                rw [Lib.isUpperB_int] at hlow
                simp at hlow
                exact hlow.1
              have h122 : ((s[k]'hlt2).toNat : Int) ≤ 90 := by
                rw [Lib.isUpperB_int] at hlow
                simp at hlow
                exact hlow.2
              have hlenp : ((s.data.toList.take p).map Lib.lowerB).length = p := by
                rw [List.length_map, List.length_take, ← Lib.size_eq]
                omega
              have hxs : (s.extract p k).size = k - p := by
                rw [Lib.size_eq, Lib.extract_data, List.length_take, List.length_drop, ← Lib.size_eq]
                omega
              have hcont : (s.data.toList.take p).map Lib.lowerB ++ (s.extract p k).data.toList ++ [Lib.lowerB (s[k]'hlt2)] = (s.data.toList.take (k + 1)).map Lib.lowerB := by
                rw [← Lib.map_stretch Lib.lowerB Lib.isUpperB Lib.lowerB_of_not s.data.toList p k _ hpk Hb.out HN.out, Lib.extract_data]
              have Hc := Aside0.mk hcont
              have hci := Lib.lowerB_int _ hlow
              have HI := Aside0.mk hci
              clear hcont hci hlow
              by_cases hpl : p < k
              · have t1 := wr_text (s.extract p k) (by omega) HB.out (by omega) (Nat.le_refl _) (Nat.le_refl _)
                have t2 := fun (w2 : World) (h2 : Wr w.heap.size w.heap.size ((s.data.toList.take p).map Lib.lowerB ++ (s.extract p k).data.toList) w w2) => wr_byte (Lib.lowerB (s[k]'hlt2)) (((s[k]'hlt2).toNat : Int) + 32) HI.out.symm h2 (by rw [List.length_append, hlenp, ← Lib.size_eq, hxs]; omega) (Nat.le_refl _) (Nat.le_refl _)
                have hpi : (p : Int) < (k : Int) := by omega
                go_wp2_with (first | (go_at_call 156; refine t1.mono ?_; rintro e w2 ⟨rfl, h2⟩; have H2 := Aside0.mk h2; clear h2) | (go_at_call 157; refine (t2 _ H2.out).mono ?_; rintro e w3 ⟨rfl, h3⟩; rw [Hc.out] at h3; have H3 := Aside0.mk h3; clear h3))
                exact ⟨⟨k + 1, k + 1, Nat.le_refl _, by omega, by go_num, by go_num, H3, Aside0.mk (by simp)⟩, by simp; omega⟩
              · obtain rfl : p = k := by omega
                have hnil : (s.extract p p).data.toList = [] := List.eq_nil_of_length_eq_zero (by rw [← Lib.size_eq, hxs]; omega)
                have hc' := Hc.out
                rw [hnil, List.append_nil] at hc'
                have t2 := wr_byte (Lib.lowerB (s[p]'hlt2)) (((s[p]'hlt2).toNat : Int) + 32) HI.out.symm HB.out (by rw [hlenp]; omega) (Nat.le_refl _) (Nat.le_refl _)
                rw [hc'] at t2
                clear hc'
                have hpi : ¬ (p : Int) < (p : Int) := by omega
                go_wp2_with (go_at_call 157; refine t2.mono ?_; rintro e w3 ⟨rfl, h3⟩; have H3 := Aside0.mk h3; clear h3)
                exact ⟨⟨p + 1, p + 1, Nat.le_refl _, by omega, by go_num, by go_num, H3, Aside0.mk (by simp)⟩, by simp; omega⟩
            · have hlow' : Lib.isUpperB (s[k]'hlt2) = false := by simpa using hlow
              have hnot : ¬ ((65 : Int) ≤ ((s[k]'hlt2).toNat : Int) ∧ ((s[k]'hlt2).toNat : Int) ≤ 90) := by
                rw [Lib.isUpperB_int] at hlow'
                simpa using hlow'
              have hstretch : ((s.data.toList.drop p).take (k + 1 - p)).any Lib.isUpperB = false := by
                have e1 : k + 1 - p = (k - p) + 1 := by omega
                have e2 : (s.data.toList.drop p)[k - p]? = some (s[k]'hlt2) := by
                  rw [List.getElem?_drop, show p + (k - p) = k by omega]
                  exact Hb.out
                rw [e1, Lib.any_take_succ _ _ _ _ e2, HN.out, hlow']
                rfl
              have Hs := Aside0.mk hstretch
              clear hstretch
              go_wp2
              all_goals first
                | exact ⟨⟨p, k + 1, by omega, by omega, rfl, by go_num, HB, Hs⟩, by simp; omega⟩
                | (exfalso; omega)
          · obtain rfl : k = s.size := by omega
            have hne : s.data.toList.map Lib.lowerB ≠ [] := by
              intro h0
              have h1 : s.data.toList = [] := by simpa using h0
              have h2 := HH.out
              rw [h1] at h2
              cases h2
            have hlenp : ((s.data.toList.take p).map Lib.lowerB).length = p := by
              rw [List.length_map, List.length_take, ← Lib.size_eq]
              omega
            have hxs : (s.extract p s.size).size = s.size - p := by
              rw [Lib.size_eq, Lib.extract_data, List.length_take, List.length_drop, ← Lib.size_eq]
              omega
            have hfull : (s.data.toList.drop p).take (s.size - p) = s.data.toList.drop p := List.take_of_length_le (by rw [List.length_drop, ← Lib.size_eq]; omega)
            have hrest : (s.data.toList.drop p).any Lib.isUpperB = false := by rw [← hfull]; exact HN.out
            have hcont : (s.data.toList.take p).map Lib.lowerB ++ (s.extract p s.size).data.toList = s.data.toList.map Lib.lowerB := by
              rw [← Lib.map_rest Lib.lowerB Lib.isUpperB Lib.lowerB_of_not s.data.toList p hrest, Lib.extract_data, hfull]
            have Hc := Aside0.mk hcont
            clear hcont hfull hrest
            have t3 := fun (w3 : World) (h3 : Wr w.heap.size w.heap.size (s.data.toList.map Lib.lowerB) w w3) => wr_done hne h3 (Nat.le_refl _) (Nat.le_refl _)
            by_cases hpl : p < s.size
            · have t1 := wr_text (s.extract p s.size) (by omega) HB.out (by omega) (Nat.le_refl _) (Nat.le_refl _)
              rw [Hc.out] at t1
              have hpi : (p : Int) < (s.size : Int) := by omega
              go_wp2_with (first | (go_at_call 156; refine t1.mono ?_; rintro e w2 ⟨rfl, h2⟩; have H2 := Aside0.mk h2; clear h2) | (go_at_call 158; refine (t3 _ H2.out).mono ?_; rintro e w3 ⟨rfl, h3⟩; have H3 := Aside0.mk h3; clear h3))
              go_ret
              exact ⟨rfl, H3.out⟩
            · obtain rfl : p = s.size := by omega
              have hnil : (s.extract s.size s.size).data.toList = [] := List.eq_nil_of_length_eq_zero (by rw [← Lib.size_eq, hxs]; omega)
              have hc' := Hc.out
              rw [hnil, List.append_nil] at hc'
              have h2 := HB.out
              rw [hc'] at h2
              have H2 := Aside0.mk h2
              have hpi : ¬ (s.size : Int) < (s.size : Int) := by omega
              clear h2 hc'
              go_wp2_with (go_at_call 158; refine (t3 _ H2.out).mono ?_; rintro e w3 ⟨rfl, h3⟩; have H3 := Aside0.mk h3; clear h3)
              go_ret
              exact ⟨rfl, H3.out⟩
end Go.Proofs.YtchbfjjeodnocaaDoor.Giv
