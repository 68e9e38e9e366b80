/- The parts' comparison and the wake-up call. -/
import Derived.Test.YtojabknjniihmabDoorPmk
import Derived.Test.YtojabknjniihmabDoorQEx
namespace Go.Proofs.YtojabknjniihmabDoor.QE
open Go.RowKit Go.Proofs.YtojabknjniihmabDoorW.PrintWords Go.Proofs.YtojabknjniihmabDoorW.PrintLast Go.Proofs.YtojabknjniihmabDoor.Pk Go.Proofs.YtojabknjniihmabDoor.Giv Go.Proofs.YtojabknjniihmabDoor.Ord
theorem implParts (a b : List UInt8) (ha : a.length ≤ 2147483647) (hb : b.length ≤ 2147483647) : impl_RedHatParts.f (bs a) (bs b) = some (Rpm.parts a b) := by
  unfold impl_RedHatParts.f semantic_ZZRedHatParts.f Giv.semantic_compareRedHatComponents.f
  rw [if_pos (by rw [bs_size]; omega), if_pos (by rw [bs_size]; omega), bs_toList, bs_toList]
  rfl
theorem implCompare (a b : List UInt8) (ha : a.length ≤ 1000000) (hb : b.length ≤ 1000000) : Giv.impl_RedHatCompare.f (bs a) (bs b) = some (Red.cmp a b, true) := by
  unfold Giv.impl_RedHatCompare.f
  rw [if_pos (by rw [bs_size]; omega), if_pos (by rw [bs_size]; omega), bs_toList, bs_toList]
theorem awake_f : laws_redhatAwake.f = some true := by
  unfold laws_redhatAwake.f
  have e : Rpm.parts [49] [50] = -1 := by decide
  have p : impl_RedHatParts.f (bs [49]) (bs [50]) = some (-1) := by rw [implParts _ _ (by simp) (by simp), e]
  have c : Giv.impl_RedHatCompare.f (bs [49]) (bs [50]) = some (-1, true) := by
    rw [implCompare _ _ (by simp) (by simp)]
    have : Red.cmp [49] [50] = -1 := by decide
    rw [this]
  have c' : Giv.impl_RedHatCompare.f (⟨#[49]⟩ : ByteArray) (⟨#[50]⟩ : ByteArray) = some (-1, true) := c
  have p' : impl_RedHatParts.f (⟨#[49]⟩ : ByteArray) (⟨#[50]⟩ : ByteArray) = some (-1) := p
  rw [c', Option.bind_some, if_pos rfl, if_pos rfl, p']
  rfl
end Go.Proofs.YtojabknjniihmabDoor.QE
