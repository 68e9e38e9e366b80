/- Segments and identifiers of versions: numbers by value, others by their bytes; and that these are orders. Plain Lean, no program. -/
import Derived.Test.YtehlakaccgccbaaDoorNum
namespace Go.Proofs.YtehlakaccgccbaaDoor.Seg
set_option linter.unusedVariables false
open Go.Proofs.YtehlakaccgccbaaDoor.Ord

def cl (l : List UInt8) : Int := if (Num.parse l).isSome then 1 else 0
def vl (l : List UInt8) : Int := (Num.parse l).getD 0
def tx (l : List UInt8) : List UInt8 := if (Num.parse l).isSome then [] else l
/-- Segments of RubyGems: a number is greater than another one. -/
def segC (x y : List UInt8) : Int := if cI (cl x) (cl y) = 0 then (if cI (vl x) (vl y) = 0 then cS (tx x) (tx y) else cI (vl x) (vl y)) else cI (cl x) (cl y)
/-- Identifiers of SemVer: a number is smaller than another one. -/
def idC (x y : List UInt8) : Int := if cI (cl y) (cl x) = 0 then (if cI (vl x) (vl y) = 0 then cS (tx x) (tx y) else cI (vl x) (vl y)) else cI (cl y) (cl x)
theorem segC_cmp : Cmp segC := (cI_cmp.key cl).then_ ((cI_cmp.key vl).then_ (cS_cmp.key tx))
theorem idC_cmp : Cmp idC := ((cI_cmp.key cl).down).then_ ((cI_cmp.key vl).then_ (cS_cmp.key tx))
section
variable {x y : List UInt8} {p q : Int}
theorem segC_nn (h : Num.parse x = some p) (k : Num.parse y = some q) : segC x y = cI p q := by
  have e : cI (1 : Int) 1 = 0 := by decide
  have e2 : cS ([] : List UInt8) [] = 0 := by decide
  unfold segC cl vl tx
  rw [h, k]
  simp only [Option.isSome_some, if_true, Option.getD_some, e, e2]
  by_cases z : cI p q = 0
  · rw [if_pos z, z]
  · rw [if_neg z]
theorem segC_tt (h : Num.parse x = none) (k : Num.parse y = none) : segC x y = cS x y := by
  have e : cI (0 : Int) 0 = 0 := by decide
  unfold segC cl vl tx
  rw [h, k]
  simp [e]
theorem segC_nt (h : Num.parse x = some p) (k : Num.parse y = none) : segC x y = 1 := by
  have e : cI (1 : Int) 0 = 1 := by decide
  unfold segC cl vl tx
  rw [h, k]
  simp [e]
theorem segC_tn (h : Num.parse x = none) (k : Num.parse y = some q) : segC x y = -1 := by
  have e : cI (0 : Int) 1 = -1 := by decide
  unfold segC cl vl tx
  rw [h, k]
  simp [e]
theorem idC_nn (h : Num.parse x = some p) (k : Num.parse y = some q) : idC x y = cI p q := by
  have e : cI (1 : Int) 1 = 0 := by decide
  have e2 : cS ([] : List UInt8) [] = 0 := by decide
  unfold idC cl vl tx
  rw [h, k]
  simp only [Option.isSome_some, if_true, Option.getD_some, e, e2]
  by_cases z : cI p q = 0
  · rw [if_pos z, z]
  · rw [if_neg z]
theorem idC_tt (h : Num.parse x = none) (k : Num.parse y = none) : idC x y = cS x y := by
  have e : cI (0 : Int) 0 = 0 := by decide
  unfold idC cl vl tx
  rw [h, k]
  simp [e]
theorem idC_nt (h : Num.parse x = some p) (k : Num.parse y = none) : idC x y = -1 := by
  have e : cI (0 : Int) 1 = -1 := by decide
  unfold idC cl vl tx
  rw [h, k]
  simp [e]
theorem idC_tn (h : Num.parse x = none) (k : Num.parse y = some q) : idC x y = 1 := by
  have e : cI (1 : Int) 0 = 1 := by decide
  unfold idC cl vl tx
  rw [h, k]
  simp [e]
end
end Go.Proofs.YtehlakaccgccbaaDoor.Seg
