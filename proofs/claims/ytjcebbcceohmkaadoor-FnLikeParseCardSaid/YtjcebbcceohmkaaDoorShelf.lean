/-
  DERIVED: THE SHELF's CONTRACTS AT THIS DUMP, IN PLAIN WORDS (tools/lay-plain.mjs out of 'TrydShelf.lean', which tools/lay-shelf.mjs wrote): THE SAME DECLARATIONS UNDER THE SAME NAMES: 'import', 'namespace', 'open', 'def', 'theorem' AND NOTHING ELSE: no command of the shelf's: FOR A HAND-IN. Each laying: the table of numbers ('.._ren') and one theorem, a field a fact of the dump's own or the kernel's comparison; each contract: ONE APPLICATION.
-/
import Derived.Shelf.Unicode.ValidAny
import Derived.Shelf.Strings.Prefix
import Derived.Shelf.Bits.Mul64
import Derived.Test.YtjcebbcceohmkaaDoorProg
namespace Go.Proofs
open Go.Shelf
def Tryd.lays206_ren : Go.Shelf.Ren := ⟨fun | 206 => 52 | n => n, fun | 9 => 9 | 4 => 4 | 3 => 3 | n => n, fun | n => n⟩
theorem Tryd.lays206 : Go.Proofs.Lays.n206 Tryd.prog Tryd.lays206_ren := {
  mixed := by kernel_rfl
  f206 := Tryd.func52.trans (congrArg some (by kernel_rfl))
  t3 := Tryd.underlying3
  a3 := Tryd.isAgg3
  z3 := Tryd.sizeOf3
  v3 := Tryd.zeroValue3
  t4 := Tryd.underlying4
  a4 := Tryd.isAgg4
  z4 := Tryd.sizeOf4
  v4 := Tryd.zeroValue4
  t9 := Tryd.underlying9
  a9 := Tryd.isAgg9
  z9 := Tryd.sizeOf9
  v9 := Tryd.zeroValue9 }
open Go.RowKit Go.Lib in
/-- internal/stringslite.HasPrefix (what strings.HasPrefix calls). (LAID: no walk: one application.) -/
theorem Tryd.stringslite_HasPrefix (s p : ByteArray) (w : World) :
    Calls Tryd.prog 52 #[.string s, .string p] w fun e w' => e = .returned (.bool (Lib.hasPrefix s.data.toList p.data.toList)) ∧ w' = w := Any.stringslite_HasPrefix Tryd.lays206 s p w
def Tryd.lays99_ren : Go.Shelf.Ren := ⟨fun | 99 => 41 | 206 => 52 | n => n, fun | 9 => 9 | 4 => 4 | 3 => 3 | n => n, fun | n => n⟩
theorem Tryd.lays99 : Go.Proofs.Lays.n99 Tryd.prog Tryd.lays99_ren := {
  mixed := by kernel_rfl
  f99 := Tryd.func41.trans (congrArg some (by kernel_rfl))
  f206 := Tryd.func52.trans (congrArg some (by kernel_rfl))
  t3 := Tryd.underlying3
  a3 := Tryd.isAgg3
  z3 := Tryd.sizeOf3
  v3 := Tryd.zeroValue3
  t4 := Tryd.underlying4
  a4 := Tryd.isAgg4
  z4 := Tryd.sizeOf4
  v4 := Tryd.zeroValue4
  t9 := Tryd.underlying9
  a9 := Tryd.isAgg9
  z9 := Tryd.sizeOf9
  v9 := Tryd.zeroValue9 }
open Go.RowKit Go.Lib in
/-- strings.HasPrefix: "HasPrefix reports whether the string s begins with prefix.": IT RETURNS 'Lib.hasPrefix s prefix'; the world is as it was. (LAID: no walk: one application.) -/
theorem Tryd.strings_HasPrefix (s p : ByteArray) (w : World) :
    Calls Tryd.prog 41 #[.string s, .string p] w fun e w' => e = .returned (.bool (Lib.hasPrefix s.data.toList p.data.toList)) ∧ w' = w := Any.strings_HasPrefix Tryd.lays99 s p w
def Tryd.lays208_ren : Go.Shelf.Ren := ⟨fun | 208 => 53 | 206 => 52 | n => n, fun | 9 => 9 | 4 => 4 | 3 => 3 | n => n, fun | n => n⟩
theorem Tryd.lays208 : Go.Proofs.Lays.n208 Tryd.prog Tryd.lays208_ren := {
  mixed := by kernel_rfl
  f206 := Tryd.func52.trans (congrArg some (by kernel_rfl))
  f208 := Tryd.func53.trans (congrArg some (by kernel_rfl))
  t3 := Tryd.underlying3
  a3 := Tryd.isAgg3
  z3 := Tryd.sizeOf3
  v3 := Tryd.zeroValue3
  t4 := Tryd.underlying4
  a4 := Tryd.isAgg4
  z4 := Tryd.sizeOf4
  v4 := Tryd.zeroValue4
  t9 := Tryd.underlying9
  a9 := Tryd.isAgg9
  z9 := Tryd.sizeOf9
  v9 := Tryd.zeroValue9 }
open Go.RowKit Go.Lib in
/-- internal/stringslite.TrimPrefix (what strings.TrimPrefix calls). (LAID: no walk: one application.) -/
theorem Tryd.stringslite_TrimPrefix (s p : ByteArray) (w : World) :
    Calls Tryd.prog 53 #[.string s, .string p] w fun e w' => e = .returned (.string ⟨(Lib.trimPrefix s.data.toList p.data.toList).toArray⟩) ∧ w' = w := Any.stringslite_TrimPrefix Tryd.lays208 s p w
def Tryd.lays101_ren : Go.Shelf.Ren := ⟨fun | 101 => 42 | 208 => 53 | 206 => 52 | n => n, fun | 9 => 9 | 4 => 4 | 3 => 3 | n => n, fun | n => n⟩
theorem Tryd.lays101 : Go.Proofs.Lays.n101 Tryd.prog Tryd.lays101_ren := {
  mixed := by kernel_rfl
  f101 := Tryd.func42.trans (congrArg some (by kernel_rfl))
  f206 := Tryd.func52.trans (congrArg some (by kernel_rfl))
  f208 := Tryd.func53.trans (congrArg some (by kernel_rfl))
  t3 := Tryd.underlying3
  a3 := Tryd.isAgg3
  z3 := Tryd.sizeOf3
  v3 := Tryd.zeroValue3
  t4 := Tryd.underlying4
  a4 := Tryd.isAgg4
  z4 := Tryd.sizeOf4
  v4 := Tryd.zeroValue4
  t9 := Tryd.underlying9
  a9 := Tryd.isAgg9
  z9 := Tryd.sizeOf9
  v9 := Tryd.zeroValue9 }
open Go.RowKit Go.Lib in
/-- strings.TrimPrefix: "TrimPrefix returns s without the provided leading prefix string. If s doesn't start with prefix, s is returned unchanged.": IT RETURNS 'Lib.trimPrefix s prefix'; the world is as it was. (LAID: no walk: one application.) -/
theorem Tryd.strings_TrimPrefix (s p : ByteArray) (w : World) :
    Calls Tryd.prog 42 #[.string s, .string p] w fun e w' => e = .returned (.string ⟨(Lib.trimPrefix s.data.toList p.data.toList).toArray⟩) ∧ w' = w := Any.strings_TrimPrefix Tryd.lays101 s p w
def Tryd.lays264_ren : Go.Shelf.Ren := ⟨fun | 264 => 83 | n => n, fun | 53 => 88 | 46 => 65 | n => n, fun | n => n⟩
theorem Tryd.lays264 : Go.Proofs.Lays.n264 Tryd.prog Tryd.lays264_ren := {
  mixed := by kernel_rfl
  f264 := Tryd.func83.trans (congrArg some (by kernel_rfl))
  t46 := Tryd.underlying65
  a46 := Tryd.isAgg65
  z46 := Tryd.sizeOf65
  v46 := Tryd.zeroValue65
  t53 := Tryd.underlying88
  a53 := Tryd.isAgg88
  z53 := Tryd.sizeOf88
  v53 := Tryd.zeroValue88 }
open Go.RowKit Go.Lib in
theorem Tryd.bits_Mul64 (x y : Nat) (hx : x < 18446744073709551616) (hy : y < 18446744073709551616) (w : World) :
    Calls Tryd.prog 83 #[.int .u64 x, .int .u64 y] w fun e w' => e = .returned (.tuple #[.int .u64 ((x * y / 18446744073709551616 : Nat) : Int), .int .u64 ((x * y % 18446744073709551616 : Nat) : Int)]) ∧ w' = w := Any.bits_Mul64 Tryd.lays264 x y hx hy w
def Tryd.lays212_ren : Go.Shelf.Ren := ⟨fun | 212 => 80 | 263 => 82 | 264 => 83 | n => n, fun | 46 => 65 | 51 => 141 | 146 => 142 | 53 => 88 | 148 => 144 | n => n, fun | n => n⟩
theorem Tryd.lays212 : Go.Proofs.Lays.n212 Tryd.prog Tryd.lays212_ren := {
  mixed := by kernel_rfl
  f212 := Tryd.func80.trans (congrArg some (by kernel_rfl))
  f263 := Tryd.func82.trans (congrArg some (by kernel_rfl))
  f264 := Tryd.func83.trans (congrArg some (by kernel_rfl))
  t46 := Tryd.underlying65
  a46 := Tryd.isAgg65
  z46 := Tryd.sizeOf65
  v46 := Tryd.zeroValue65
  t51 := Tryd.underlying141
  a51 := Tryd.isAgg141
  z51 := Tryd.sizeOf141
  v51 := Tryd.zeroValue141
  t53 := Tryd.underlying88
  a53 := Tryd.isAgg88
  z53 := Tryd.sizeOf88
  v53 := Tryd.zeroValue88
  t146 := Tryd.underlying142
  a146 := Tryd.isAgg142
  z146 := Tryd.sizeOf142
  v146 := Tryd.zeroValue142
  t148 := Tryd.underlying144
  a148 := Tryd.isAgg144
  z148 := Tryd.sizeOf144
  v148 := Tryd.zeroValue144 }
open Go.RowKit Go.Lib in
/-- math/bits.Mul: "Mul returns the full-width product of x and y": on a machine of 64 bits: Mul64's. (LAID: no walk: one application.) -/
theorem Tryd.bits_Mul (x y : Nat) (hx : x < 18446744073709551616) (hy : y < 18446744073709551616) (w : World) :
    Calls Tryd.prog 80 #[.int .u64 x, .int .u64 y] w fun e w' => e = .returned (.tuple #[.int .u64 ((x * y / 18446744073709551616 : Nat) : Int), .int .u64 ((x * y % 18446744073709551616 : Nat) : Int)]) ∧ w' = w := Any.bits_Mul Tryd.lays212 x y hx hy w
def Tryd.lays196_ren : Go.Shelf.Ren := ⟨fun | 196 => 15 | 259 => 29 | n => n, fun | 9 => 9 | 4 => 4 | 3 => 3 | 5 => 5 | 12 => 12 | 119 => 61 | 0 => 0 | 46 => 65 | 139 => 64 | 138 => 63 | 53 => 88 | n => n, fun | 3 => 0 | 4 => 1 | n => n⟩
theorem Tryd.lays196 : Go.Proofs.Lays.n196 Tryd.prog Tryd.lays196_ren := {
  mixed := by kernel_rfl
  f196 := Tryd.func15.trans (congrArg some (by kernel_rfl))
  f259 := Tryd.func29.trans (congrArg some (by kernel_rfl))
  t0 := Tryd.underlying0
  a0 := Tryd.isAgg0
  z0 := Tryd.sizeOf0
  v0 := Tryd.zeroValue0
  t3 := Tryd.underlying3
  a3 := Tryd.isAgg3
  z3 := Tryd.sizeOf3
  v3 := Tryd.zeroValue3
  t4 := Tryd.underlying4
  a4 := Tryd.isAgg4
  z4 := Tryd.sizeOf4
  v4 := Tryd.zeroValue4
  t5 := Tryd.underlying5
  a5 := Tryd.isAgg5
  z5 := Tryd.sizeOf5
  v5 := Tryd.zeroValue5
  t9 := Tryd.underlying9
  a9 := Tryd.isAgg9
  z9 := Tryd.sizeOf9
  v9 := Tryd.zeroValue9
  t12 := Tryd.underlying12
  a12 := Tryd.isAgg12
  z12 := Tryd.sizeOf12
  v12 := Tryd.zeroValue12
  t46 := Tryd.underlying65
  a46 := Tryd.isAgg65
  z46 := Tryd.sizeOf65
  v46 := Tryd.zeroValue65
  t53 := Tryd.underlying88
  a53 := Tryd.isAgg88
  z53 := Tryd.sizeOf88
  v53 := Tryd.zeroValue88
  t119 := Tryd.underlying61
  a119 := Tryd.isAgg61
  z119 := Tryd.sizeOf61
  t138 := Tryd.underlying63
  a138 := Tryd.isAgg63
  z138 := Tryd.sizeOf63
  v138 := Tryd.zeroValue63
  t139 := Tryd.underlying64
  a139 := Tryd.isAgg64
  z139 := Tryd.sizeOf64
  v139 := Tryd.zeroValue64
  g3 := by kernel_rfl
  g4 := by kernel_rfl }
open Go.RowKit Go.Lib in
/-- utf8.ValidString. (LAID: no walk: one application.) -/
theorem Tryd.utf8_ValidString (s : ByteArray) (w : World) (hs : s.size ≤ 9223372036854775807) (hT : Lib.Utf8Tabs (Tryd.lays196_ren.g 3) (Tryd.lays196_ren.g 4) w) :
    Calls Tryd.prog 15 #[.string s] w fun e w' => e = .returned (.bool (Lib.validD s.data.toList)) ∧ Below w.heap.size w w' := Any.utf8_ValidString Tryd.lays196 s w hs hT
end Go.Proofs
