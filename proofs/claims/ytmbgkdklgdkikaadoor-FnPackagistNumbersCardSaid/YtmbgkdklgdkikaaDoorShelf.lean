/-
  DERIVED: THE SHELF's CONTRACTS AT THIS DUMP, IN PLAIN WORDS (tools/lay-plain.mjs out of 'TrydShelf.lean', which tools/lay-shelf.mjs wrote): THE SAME DECLARATIONS UNDER THE SAME NAMES: 'import', 'namespace', 'open', 'def', 'theorem' AND NOTHING ELSE: no command of the shelf's: FOR A HAND-IN. Each laying: the table of numbers ('.._ren') and one theorem, a field a fact of the dump's own or the kernel's comparison; each contract: ONE APPLICATION.
-/
import Derived.Shelf.Strconv.Atoi
import Derived.Shelf.Strings.Prefix
import Derived.Shelf.Bits.Mul64
import Derived.Test.YtmbgkdklgdkikaaDoorProg
namespace Go.Proofs
open Go.Shelf
def Tryd.lays244_ren : Go.Shelf.Ren := ⟨fun | 244 => 30 | 247 => 35 | 287 => 42 | 321 => 48 | 322 => 49 | n => n, fun | 9 => 9 | 3 => 3 | 75 => 48 | 4 => 4 | 5 => 5 | 167 => 69 | 37 => 42 | 0 => 0 | 85 => 70 | 2 => 2 | 53 => 83 | 175 => 84 | 46 => 66 | 21 => 21 | 80 => 141 | n => n, fun | n => n⟩
theorem Tryd.lays244 : Go.Proofs.Lays.n244 Tryd.prog Tryd.lays244_ren := {
  mixed := by kernel_rfl
  f244 := Tryd.func30.trans (congrArg some (by kernel_rfl))
  f247 := Tryd.func35.trans (congrArg some (by kernel_rfl))
  f287 := Tryd.func42.trans (congrArg some (by kernel_rfl))
  f321 := Tryd.func48.trans (congrArg some (by kernel_rfl))
  f322 := Tryd.func49.trans (congrArg some (by kernel_rfl))
  t0 := Tryd.underlying0
  a0 := Tryd.isAgg0
  z0 := Tryd.sizeOf0
  v0 := Tryd.zeroValue0
  t2 := Tryd.underlying2
  a2 := Tryd.isAgg2
  z2 := Tryd.sizeOf2
  v2 := Tryd.zeroValue2
  t3 := Tryd.underlying3
  a3 := Tryd.isAgg3
  z3 := Tryd.sizeOf3
  v3 := Tryd.zeroValue3
  t4 := Tryd.underlying4
  a4 := Tryd.isAgg4
  z4 := Tryd.sizeOf4
  v4 := Tryd.zeroValue4
  t5 := Tryd.underlying5
  a5 := Tryd.isAgg5
  z5 := Tryd.sizeOf5
  v5 := Tryd.zeroValue5
  t9 := Tryd.underlying9
  a9 := Tryd.isAgg9
  z9 := Tryd.sizeOf9
  v9 := Tryd.zeroValue9
  t21 := Tryd.underlying21
  a21 := Tryd.isAgg21
  z21 := Tryd.sizeOf21
  v21 := Tryd.zeroValue21
  t37 := Tryd.underlying42
  a37 := Tryd.isAgg42
  z37 := Tryd.sizeOf42
  v37 := Tryd.zeroValue42
  t46 := Tryd.underlying66
  a46 := Tryd.isAgg66
  z46 := Tryd.sizeOf66
  v46 := Tryd.zeroValue66
  t53 := Tryd.underlying83
  a53 := Tryd.isAgg83
  z53 := Tryd.sizeOf83
  v53 := Tryd.zeroValue83
  t75 := Tryd.underlying48
  a75 := Tryd.isAgg48
  z75 := Tryd.sizeOf48
  v75 := Tryd.zeroValue48
  t85 := Tryd.underlying70
  a85 := Tryd.isAgg70
  z85 := Tryd.sizeOf70
  v85 := Tryd.zeroValue70
  t167 := Tryd.underlying69
  a167 := Tryd.isAgg69
  z167 := Tryd.sizeOf69
  v167 := Tryd.zeroValue69
  t175 := Tryd.underlying84
  a175 := Tryd.isAgg84
  z175 := Tryd.sizeOf84
  v175 := Tryd.zeroValue84 }
open Go.RowKit in
/-- internal/strconv.Atoi, at a decimal numeral of at most 18 bytes: ITS VALUE, AND NO ERROR. The world behind the call: the one new row that '[]byte(s)' lays. (LAID: no walk: one application.) -/
theorem Tryd.internal_strconv_Atoi (s : ByteArray) (n : Int) (hl : s.size ≤ 18) (h : Lib.atoi s.data.toList = some n) (w : World) :
    Calls Tryd.prog 30 #[.string s] w fun e w' => e = .returned (.tuple #[.int .i64 n, .nilIface]) ∧ ∃ t, w' = Lib.bytesWorld w 5 t := Any.internal_strconv_Atoi Tryd.lays244 s n hl h w
def Tryd.lays172_ren : Go.Shelf.Ren := ⟨fun | 172 => 26 | 244 => 30 | 245 => 31 | 247 => 35 | 279 => 36 | 280 => 37 | 281 => 38 | 282 => 39 | 287 => 42 | 316 => 43 | 171 => 45 | 205 => 44 | 321 => 48 | 322 => 49 | 243 => 50 | 246 => 57 | 283 => 65 | 284 => 66 | 285 => 67 | 286 => 68 | 129 => 72 | 317 => 71 | 318 => 73 | 319 => 74 | 320 => 75 | 337 => 77 | 338 => 78 | n => n, fun | 9 => 9 | 3 => 3 | 75 => 48 | 76 => 52 | 4 => 4 | 5 => 5 | 167 => 69 | 37 => 42 | 0 => 0 | 85 => 70 | 2 => 2 | 168 => 72 | 53 => 83 | 175 => 84 | 46 => 66 | 210 => 88 | 127 => 96 | 145 => 99 | 143 => 97 | 21 => 21 | 171 => 115 | 173 => 118 | 212 => 122 | 51 => 123 | 20 => 20 | 213 => 124 | 232 => 133 | 233 => 134 | 80 => 141 | n => n, fun | 15 => 2 | 16 => 3 | 17 => 6 | 18 => 7 | 19 => 8 | n => n⟩
theorem Tryd.lays172 : Go.Proofs.Lays.n172 Tryd.prog Tryd.lays172_ren := {
  mixed := by kernel_rfl
  f129 := Tryd.func72.trans (congrArg some (by kernel_rfl))
  f171 := Tryd.func45.trans (congrArg some (by kernel_rfl))
  f172 := Tryd.func26.trans (congrArg some (by kernel_rfl))
  f205 := Tryd.func44.trans (congrArg some (by kernel_rfl))
  f243 := Tryd.func50.trans (congrArg some (by kernel_rfl))
  f244 := Tryd.func30.trans (congrArg some (by kernel_rfl))
  f245 := Tryd.func31.trans (congrArg some (by kernel_rfl))
  f246 := Tryd.func57.trans (congrArg some (by kernel_rfl))
  f247 := Tryd.func35.trans (congrArg some (by kernel_rfl))
  f279 := Tryd.func36.trans (congrArg some (by kernel_rfl))
  f280 := Tryd.func37.trans (congrArg some (by kernel_rfl))
  f281 := Tryd.func38.trans (congrArg some (by kernel_rfl))
  f282 := Tryd.func39.trans (congrArg some (by kernel_rfl))
  f283 := Tryd.func65.trans (congrArg some (by kernel_rfl))
  f284 := Tryd.func66.trans (congrArg some (by kernel_rfl))
  f285 := Tryd.func67.trans (congrArg some (by kernel_rfl))
  f286 := Tryd.func68.trans (congrArg some (by kernel_rfl))
  f287 := Tryd.func42.trans (congrArg some (by kernel_rfl))
  f316 := Tryd.func43.trans (congrArg some (by kernel_rfl))
  f317 := Tryd.func71.trans (congrArg some (by kernel_rfl))
  f318 := Tryd.func73.trans (congrArg some (by kernel_rfl))
  f319 := Tryd.func74.trans (congrArg some (by kernel_rfl))
  f320 := Tryd.func75.trans (congrArg some (by kernel_rfl))
  f321 := Tryd.func48.trans (congrArg some (by kernel_rfl))
  f322 := Tryd.func49.trans (congrArg some (by kernel_rfl))
  f337 := Tryd.func77.trans (congrArg some (by kernel_rfl))
  f338 := Tryd.func78.trans (congrArg some (by kernel_rfl))
  t0 := Tryd.underlying0
  a0 := Tryd.isAgg0
  z0 := Tryd.sizeOf0
  v0 := Tryd.zeroValue0
  t2 := Tryd.underlying2
  a2 := Tryd.isAgg2
  z2 := Tryd.sizeOf2
  v2 := Tryd.zeroValue2
  t3 := Tryd.underlying3
  a3 := Tryd.isAgg3
  z3 := Tryd.sizeOf3
  v3 := Tryd.zeroValue3
  t4 := Tryd.underlying4
  a4 := Tryd.isAgg4
  z4 := Tryd.sizeOf4
  v4 := Tryd.zeroValue4
  t5 := Tryd.underlying5
  a5 := Tryd.isAgg5
  z5 := Tryd.sizeOf5
  v5 := Tryd.zeroValue5
  t9 := Tryd.underlying9
  a9 := Tryd.isAgg9
  z9 := Tryd.sizeOf9
  v9 := Tryd.zeroValue9
  t20 := Tryd.underlying20
  a20 := Tryd.isAgg20
  z20 := Tryd.sizeOf20
  v20 := Tryd.zeroValue20
  t21 := Tryd.underlying21
  a21 := Tryd.isAgg21
  z21 := Tryd.sizeOf21
  v21 := Tryd.zeroValue21
  t37 := Tryd.underlying42
  a37 := Tryd.isAgg42
  z37 := Tryd.sizeOf42
  v37 := Tryd.zeroValue42
  t46 := Tryd.underlying66
  a46 := Tryd.isAgg66
  z46 := Tryd.sizeOf66
  v46 := Tryd.zeroValue66
  t51 := Tryd.underlying123
  a51 := Tryd.isAgg123
  z51 := Tryd.sizeOf123
  v51 := Tryd.zeroValue123
  t53 := Tryd.underlying83
  a53 := Tryd.isAgg83
  z53 := Tryd.sizeOf83
  v53 := Tryd.zeroValue83
  t75 := Tryd.underlying48
  a75 := Tryd.isAgg48
  z75 := Tryd.sizeOf48
  v75 := Tryd.zeroValue48
  t76 := Tryd.underlying52
  a76 := Tryd.isAgg52
  z76 := Tryd.sizeOf52
  v76 := Tryd.zeroValue52
  t85 := Tryd.underlying70
  a85 := Tryd.isAgg70
  z85 := Tryd.sizeOf70
  v85 := Tryd.zeroValue70
  t127 := Tryd.underlying96
  a127 := Tryd.isAgg96
  z127 := Tryd.sizeOf96
  v127 := Tryd.zeroValue96
  t143 := Tryd.underlying97
  a143 := Tryd.isAgg97
  z143 := Tryd.sizeOf97
  v143 := Tryd.zeroValue97
  t145 := Tryd.underlying99
  a145 := Tryd.isAgg99
  z145 := Tryd.sizeOf99
  v145 := Tryd.zeroValue99
  t167 := Tryd.underlying69
  a167 := Tryd.isAgg69
  z167 := Tryd.sizeOf69
  v167 := Tryd.zeroValue69
  t168 := Tryd.underlying72
  a168 := Tryd.isAgg72
  z168 := Tryd.sizeOf72
  v168 := Tryd.zeroValue72
  t171 := Tryd.underlying115
  a171 := Tryd.isAgg115
  z171 := Tryd.sizeOf115
  v171 := Tryd.zeroValue115
  t173 := Tryd.underlying118
  a173 := Tryd.isAgg118
  z173 := Tryd.sizeOf118
  v173 := Tryd.zeroValue118
  t175 := Tryd.underlying84
  a175 := Tryd.isAgg84
  z175 := Tryd.sizeOf84
  v175 := Tryd.zeroValue84
  t210 := Tryd.underlying88
  a210 := Tryd.isAgg88
  z210 := Tryd.sizeOf88
  v210 := Tryd.zeroValue88
  t212 := Tryd.underlying122
  a212 := Tryd.isAgg122
  z212 := Tryd.sizeOf122
  v212 := Tryd.zeroValue122
  t213 := Tryd.underlying124
  a213 := Tryd.isAgg124
  z213 := Tryd.sizeOf124
  t232 := Tryd.underlying133
  a232 := Tryd.isAgg133
  z232 := Tryd.sizeOf133
  v232 := Tryd.zeroValue133
  t233 := Tryd.underlying134
  a233 := Tryd.isAgg134
  z233 := Tryd.sizeOf134
  v233 := Tryd.zeroValue134
  g15 := by kernel_rfl
  g16 := by kernel_rfl
  g17 := by kernel_rfl
  g18 := by kernel_rfl
  g19 := by kernel_rfl }
open Go.RowKit in
/-- strconv.Atoi: "Atoi is equivalent to ParseInt(s, 10, 0), converted to type int.": AT A DECIMAL NUMERAL OF AT MOST 18 BYTES: its value, and a nil error. The world behind the call: the one new row that the library's '[]byte(s)' lays. (LAID: no walk: one application.) -/
theorem Tryd.strconv_Atoi (s : ByteArray) (n : Int) (hl : s.size ≤ 18) (h : Lib.atoi s.data.toList = some n) (w : World) :
    Calls Tryd.prog 26 #[.string s] w fun e w' => e = .returned (.tuple #[.int .i64 n, .nilIface]) ∧ ∃ t, w' = Lib.bytesWorld w 5 t := Any.strconv_Atoi Tryd.lays172 s n hl h w
def Tryd.lays206_ren : Go.Shelf.Ren := ⟨fun | 206 => 41 | n => n, fun | 9 => 9 | 4 => 4 | 3 => 3 | n => n, fun | n => n⟩
theorem Tryd.lays206 : Go.Proofs.Lays.n206 Tryd.prog Tryd.lays206_ren := {
  mixed := by kernel_rfl
  f206 := Tryd.func41.trans (congrArg some (by kernel_rfl))
  t3 := Tryd.underlying3
  a3 := Tryd.isAgg3
  z3 := Tryd.sizeOf3
  v3 := Tryd.zeroValue3
  t4 := Tryd.underlying4
  a4 := Tryd.isAgg4
  z4 := Tryd.sizeOf4
  v4 := Tryd.zeroValue4
  t9 := Tryd.underlying9
  a9 := Tryd.isAgg9
  z9 := Tryd.sizeOf9
  v9 := Tryd.zeroValue9 }
open Go.RowKit Go.Lib in
/-- internal/stringslite.HasPrefix (what strings.HasPrefix calls). (LAID: no walk: one application.) -/
theorem Tryd.stringslite_HasPrefix (s p : ByteArray) (w : World) :
    Calls Tryd.prog 41 #[.string s, .string p] w fun e w' => e = .returned (.bool (Lib.hasPrefix s.data.toList p.data.toList)) ∧ w' = w := Any.stringslite_HasPrefix Tryd.lays206 s p w
def Tryd.lays99_ren : Go.Shelf.Ren := ⟨fun | 99 => 34 | 206 => 41 | n => n, fun | 9 => 9 | 4 => 4 | 3 => 3 | n => n, fun | n => n⟩
theorem Tryd.lays99 : Go.Proofs.Lays.n99 Tryd.prog Tryd.lays99_ren := {
  mixed := by kernel_rfl
  f99 := Tryd.func34.trans (congrArg some (by kernel_rfl))
  f206 := Tryd.func41.trans (congrArg some (by kernel_rfl))
  t3 := Tryd.underlying3
  a3 := Tryd.isAgg3
  z3 := Tryd.sizeOf3
  v3 := Tryd.zeroValue3
  t4 := Tryd.underlying4
  a4 := Tryd.isAgg4
  z4 := Tryd.sizeOf4
  v4 := Tryd.zeroValue4
  t9 := Tryd.underlying9
  a9 := Tryd.isAgg9
  z9 := Tryd.sizeOf9
  v9 := Tryd.zeroValue9 }
open Go.RowKit Go.Lib in
/-- strings.HasPrefix: "HasPrefix reports whether the string s begins with prefix.": IT RETURNS 'Lib.hasPrefix s prefix'; the world is as it was. (LAID: no walk: one application.) -/
theorem Tryd.strings_HasPrefix (s p : ByteArray) (w : World) :
    Calls Tryd.prog 34 #[.string s, .string p] w fun e w' => e = .returned (.bool (Lib.hasPrefix s.data.toList p.data.toList)) ∧ w' = w := Any.strings_HasPrefix Tryd.lays99 s p w
def Tryd.lays264_ren : Go.Shelf.Ren := ⟨fun | 264 => 82 | n => n, fun | 53 => 83 | 46 => 66 | n => n, fun | n => n⟩
theorem Tryd.lays264 : Go.Proofs.Lays.n264 Tryd.prog Tryd.lays264_ren := {
  mixed := by kernel_rfl
  f264 := Tryd.func82.trans (congrArg some (by kernel_rfl))
  t46 := Tryd.underlying66
  a46 := Tryd.isAgg66
  z46 := Tryd.sizeOf66
  v46 := Tryd.zeroValue66
  t53 := Tryd.underlying83
  a53 := Tryd.isAgg83
  z53 := Tryd.sizeOf83
  v53 := Tryd.zeroValue83 }
open Go.RowKit Go.Lib in
theorem Tryd.bits_Mul64 (x y : Nat) (hx : x < 18446744073709551616) (hy : y < 18446744073709551616) (w : World) :
    Calls Tryd.prog 82 #[.int .u64 x, .int .u64 y] w fun e w' => e = .returned (.tuple #[.int .u64 ((x * y / 18446744073709551616 : Nat) : Int), .int .u64 ((x * y % 18446744073709551616 : Nat) : Int)]) ∧ w' = w := Any.bits_Mul64 Tryd.lays264 x y hx hy w
def Tryd.lays212_ren : Go.Shelf.Ren := ⟨fun | 212 => 79 | 263 => 81 | 264 => 82 | n => n, fun | 46 => 66 | 51 => 123 | 146 => 135 | 53 => 83 | 148 => 137 | n => n, fun | n => n⟩
theorem Tryd.lays212 : Go.Proofs.Lays.n212 Tryd.prog Tryd.lays212_ren := {
  mixed := by kernel_rfl
  f212 := Tryd.func79.trans (congrArg some (by kernel_rfl))
  f263 := Tryd.func81.trans (congrArg some (by kernel_rfl))
  f264 := Tryd.func82.trans (congrArg some (by kernel_rfl))
  t46 := Tryd.underlying66
  a46 := Tryd.isAgg66
  z46 := Tryd.sizeOf66
  v46 := Tryd.zeroValue66
  t51 := Tryd.underlying123
  a51 := Tryd.isAgg123
  z51 := Tryd.sizeOf123
  v51 := Tryd.zeroValue123
  t53 := Tryd.underlying83
  a53 := Tryd.isAgg83
  z53 := Tryd.sizeOf83
  v53 := Tryd.zeroValue83
  t146 := Tryd.underlying135
  a146 := Tryd.isAgg135
  z146 := Tryd.sizeOf135
  v146 := Tryd.zeroValue135
  t148 := Tryd.underlying137
  a148 := Tryd.isAgg137
  z148 := Tryd.sizeOf137
  v148 := Tryd.zeroValue137 }
open Go.RowKit Go.Lib in
/-- math/bits.Mul: "Mul returns the full-width product of x and y": on a machine of 64 bits: Mul64's. (LAID: no walk: one application.) -/
theorem Tryd.bits_Mul (x y : Nat) (hx : x < 18446744073709551616) (hy : y < 18446744073709551616) (w : World) :
    Calls Tryd.prog 79 #[.int .u64 x, .int .u64 y] w fun e w' => e = .returned (.tuple #[.int .u64 ((x * y / 18446744073709551616 : Nat) : Int), .int .u64 ((x * y % 18446744073709551616 : Nat) : Int)]) ∧ w' = w := Any.bits_Mul Tryd.lays212 x y hx hy w
end Go.Proofs
