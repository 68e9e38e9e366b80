/- Contract by hand: compareRedHatComponents, the empty texts; and the contract that the printed callers use. -/
import Derived.Test.YtehlakaccgccbaaDoorGivR
namespace Go.Proofs.YtehlakaccgccbaaDoor.Giv
open Go.RowKit Go.Proofs.YtehlakaccgccbaaDoor.Ord
set_option linter.unusedSimpArgs false
set_option linter.unusedVariables false

theorem isEmpty_iff (a : ByteArray) : a.toList.isEmpty = true ↔ a.toList = [] := by simp
theorem size0 (a : ByteArray) (h : a.toList = []) : a.size = 0 := by rw [← len_toList, h]; rfl
theorem empty_eq (a : ByteArray) (h : a.toList = []) : a = ⟨#[]⟩ := by
  rw [toList_eq'] at h
  cases a with
  | mk d =>
    congr 1
    exact Array.toList_eq_nil_iff.1 h

set_option maxHeartbeats 1000000 in
set_option maxRecDepth 100000 in
theorem parts_lo (b : ByteArray) (w : World) (hB : b.toList.isEmpty = false) :
    Calls Tryd.prog 25 #[.string ⟨#[]⟩, .string b] w fun e w' => e = .returned (.int .i64 (-1)) ∧ Below w.heap.size w w' := by
  go_enter Tryd.func25, Tryd.ntmps25
  go_wp2_with fail
  go_ret
  exact ⟨rfl, Below.refl _ _⟩
set_option maxHeartbeats 1000000 in
set_option maxRecDepth 100000 in
theorem parts_hi (a : ByteArray) (w : World) (hA : a.toList.isEmpty = false) :
    Calls Tryd.prog 25 #[.string a, .string ⟨#[]⟩] w fun e w' => e = .returned (.int .i64 1) ∧ Below w.heap.size w w' := by
  go_enter Tryd.func25, Tryd.ntmps25
  go_wp2_with fail
  go_ret
  exact ⟨rfl, Below.refl _ _⟩
set_option maxHeartbeats 1000000 in
set_option maxRecDepth 100000 in
theorem parts_00 (w : World) :
    Calls Tryd.prog 25 #[.string ⟨#[]⟩, .string ⟨#[]⟩] w fun e w' => e = .returned (.int .i64 0) ∧ Below w.heap.size w w' := by
  go_enter Tryd.func25, Tryd.ntmps25
  go_wp2_with fail
  go_loopg [5, 6] 1 (fun kf v5 v6 wr => v5 = .int .i64 0 ∧ v6 = .int .i64 0 ∧ Below w.heap.size w wr)
  case atStart => exact ⟨rfl, rfl, Below.refl _ _⟩
  case round =>
    obtain ⟨rfl, rfl, hbw⟩ := hrel
    go_wp2_with fail
    go_loop [5] (fun v5 => v5 = .int .i64 0) (fun v5 => 0)
    case atStart => rfl
    case round =>
      obtain rfl := hrel
      go_wp2_with fail
      go_loop [6] (fun v6 => v6 = .int .i64 0) (fun v6 => 0)
      case atStart => rfl
      case round =>
        obtain rfl := hrel
        go_wp2_with fail
        go_ret
        exact ⟨rfl, hbw⟩

theorem parts_calls (a b : ByteArray) (w : World) (ha : a.size ≤ 2147483647) (hb : b.size ≤ 2147483647) :
    Calls Tryd.prog 25 #[.string a, .string b] w fun e w' => e = .returned (.int .i64 (Rpm.parts a.toList b.toList)) ∧ Below w.heap.size w w' := by
  rcases hA : a.toList.isEmpty with _ | _
  · rcases hB : b.toList.isEmpty with _ | _
    · have nA : a.toList ≠ [] := fun h => by rw [h] at hA; exact absurd hA (by simp)
      have nB : b.toList ≠ [] := fun h => by rw [h] at hB; exact absurd hB (by simp)
      have e : Rpm.parts a.toList b.toList = Rpm.rpm (a.toList.length + b.toList.length + 1) a.toList b.toList := by
        unfold Rpm.parts
        rw [if_neg (by simp [nA, nB])]
      rw [e]
      exact rpm_calls a b w ha hb hA hB
    · have nB := (isEmpty_iff b).1 hB
      have nA : a.toList ≠ [] := fun h => by rw [h] at hA; exact absurd hA (by simp)
      have hl := List.length_pos_iff.2 nA
      have e : Rpm.parts a.toList b.toList = 1 := by
        unfold Rpm.parts
        rw [if_pos (.inr nB), nB]
        rw [cI_pos]
        simp
        omega
      rw [e, empty_eq b nB]
      exact parts_hi a w hA
  · have nA := (isEmpty_iff a).1 hA
    rcases hB : b.toList.isEmpty with _ | _
    · have nB : b.toList ≠ [] := fun h => by rw [h] at hB; exact absurd hB (by simp)
      have hl := List.length_pos_iff.2 nB
      have e : Rpm.parts a.toList b.toList = -1 := by
        unfold Rpm.parts
        rw [if_pos (.inl nA), nA]
        rw [cI_neg]
        simp
        omega
      rw [e, empty_eq a nA]
      exact parts_lo b w hB
    · have nB := (isEmpty_iff b).1 hB
      have e : Rpm.parts a.toList b.toList = 0 := by
        unfold Rpm.parts
        rw [if_pos (.inl nA), nA, nB]
        rfl
      rw [e, empty_eq a nA, empty_eq b nB]
      exact parts_00 w
def semantic_compareRedHatComponents.f (a0 a1 : ByteArray) : Option Int := if a0.size ≤ 2147483647 then (if a1.size ≤ 2147483647 then some (Rpm.parts a0.toList a1.toList) else none) else none
theorem semantic_compareRedHatComponents.calls (a0 a1 : ByteArray) (r : Int) (w : World) (h : semantic_compareRedHatComponents.f a0 a1 = some r) :
    Calls Tryd.prog 25 #[.string a0, .string a1] w fun e w' => e = .returned (.int .i64 r) ∧ Below w.heap.size w w' := by
  unfold semantic_compareRedHatComponents.f at h
  by_cases h0 : a0.size ≤ 2147483647
  · by_cases h1 : a1.size ≤ 2147483647
    · rw [if_pos h0, if_pos h1] at h
      obtain rfl := Option.some.inj h
      exact parts_calls a0 a1 w h0 h1
    · rw [if_pos h0, if_neg h1] at h
      exact absurd h (by simp)
  · rw [if_neg h0] at h
    exact absurd h (by simp)
end Go.Proofs.YtehlakaccgccbaaDoor.Giv
