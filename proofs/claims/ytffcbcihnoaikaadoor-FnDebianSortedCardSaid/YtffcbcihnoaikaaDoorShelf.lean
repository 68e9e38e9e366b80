/-
  DERIVED: LAID BY THE SHELF's lay-shelf.mjs AT THE DUMP 'toys/ytffcbcihnoaikaadoor/ytffcbcihnoaikaadoor.cut.gsa' (alias 'Tryd'): THE LIBRARY CONTRACTS THAT ARE PROVED ONCE, OVER ANY PROGRAM AND ANY NUMBERING, AS THEOREMS OF THIS PROGRAM: WITHOUT A WALK: 'shelf_lay' reads the table of numbers off the bodies and has the kernel compare each body; then each contract is ONE APPLICATION. EACH COMMAND STANDS UNDER 'shelf_try': one that errs is rolled back and told in the build's print ('SHELF: NOT LAID: <name>: ..'); THE MODULE's LAST ROW OF PRINT COUNTS THEM ('SHELF: n LAID, m NOT LAID'): READ IT: a contract that is not laid is not there to be used.
-/
import Derived.Shelf.Lay
import Derived.Shelf.LaySoft
import Derived.Shelf.Strings.TrimSpace
import Derived.Shelf.Strings.LastIndex
import Derived.Test.YtffcbcihnoaikaaDoorProg
namespace Go.Proofs
open Go.Shelf
shelf_try shelf_lay Lays.n163 Nm 163 at Tryd as Tryd.lays163
shelf_try theorem Tryd.Space_Extra_163 : Space.Extra Tryd.prog Tryd.lays163_ren where
  gNamed := by kernel_rfl
shelf_try open Go.RowKit in
theorem Tryd.strings_TrimSpace (s : ByteArray) (w : World) (hs : s.size ≤ 9223372036854775807) (hascii : ∀ (j : Nat) b, s.data.toList[j]? = some b → b.toNat < 128) (htab : Lib.TabIs Tryd.prog w "strings.asciiSpace" .u8 Lib.asciiSpaceTab) :
    Calls Tryd.prog 27 #[.string s] w fun e w' => e = .returned (.string ⟨(Lib.trimSpace s.data.toList).toArray⟩) ∧ w' = Lib.bytesWorld w 5 s := Any.strings_TrimSpace Tryd.lays163 Tryd.Space_Extra_163 s w hs hascii htab
shelf_try #print axioms Tryd.strings_TrimSpace
shelf_try shelf_lay Lays.n222 Nm 222 at Tryd as Tryd.lays222
shelf_try open Go.RowKit Go.Lib in
/-- internal/bytealg.LastIndexByteString: 'for i := len(s) - 1; i >= 0; i-- { if s[i] == c { return i } }; return -1'. (LAID: no walk: one application.) -/
theorem Tryd.bytealg_LastIndexByteString_nm (s : ByteArray) (c : Int) (hs : s.size < 4611686018427387904) (w : World) :
    Calls Tryd.prog 58 #[.string s, .int .u8 c] w fun e w' => e = .returned (.int .i64 (Lib.lastIndexByte s c)) ∧ w' = w := Any.bytealg_LastIndexByteString_nm Tryd.lays222 s c hs w
shelf_try #print axioms Tryd.bytealg_LastIndexByteString_nm
shelf_try shelf_lay Lays.n148 Nm 148 at Tryd as Tryd.lays148
shelf_try open Go.RowKit Go.Lib in
/-- strings.LastIndex AT A substr OF ONE BYTE (as in 'strings.LastIndex(path, "/")'): the last place of that byte, or -1. (LAID: no walk: one application.) -/
theorem Tryd.strings_LastIndex_one (s sub : ByteArray) (h1 : sub.size = 1) (hs : s.size < 4611686018427387904) (w : World) :
    Calls Tryd.prog 47 #[.string s, .string sub] w fun e w' => e = .returned (.int .i64 (Lib.lastIndexByte s ((sub[0]'(by omega)).toNat : Int))) ∧ w' = w := Any.strings_LastIndex_one Tryd.lays148 s sub h1 hs w
shelf_try #print axioms Tryd.strings_LastIndex_one
shelf_try open Go.RowKit Go.Lib in
/-- .. AT THE EMPTY substr: len(s). (LAID: no walk: one application.) -/
theorem Tryd.strings_LastIndex_empty (s sub : ByteArray) (h0 : sub.size = 0) (w : World) :
    Calls Tryd.prog 47 #[.string s, .string sub] w fun e w' => e = .returned (.int .i64 s.size) ∧ w' = w := Any.strings_LastIndex_empty Tryd.lays148 s sub h0 w
shelf_try #print axioms Tryd.strings_LastIndex_empty
shelf_try open Go.RowKit Go.Lib in
/-- .. AT A substr LONGER THAN s (and of two bytes or more): -1. (LAID: no walk: one application.) -/
theorem Tryd.strings_LastIndex_longer (s sub : ByteArray) (h2 : 2 ≤ sub.size) (hl : s.size < sub.size) (w : World) :
    Calls Tryd.prog 47 #[.string s, .string sub] w fun e w' => e = .returned (.int .i64 (-1)) ∧ w' = w := Any.strings_LastIndex_longer Tryd.lays148 s sub h2 hl w
shelf_try #print axioms Tryd.strings_LastIndex_longer
shelf_try open Go.RowKit Go.Lib in
/-- .. AT A substr AS LONG AS s (and of two bytes or more): 0 where the two are one, else -1. (LAID: no walk: one application.) -/
theorem Tryd.strings_LastIndex_whole (s sub : ByteArray) (h2 : 2 ≤ sub.size) (hl : sub.size = s.size) (w : World) :
    Calls Tryd.prog 47 #[.string s, .string sub] w fun e w' => e = .returned (.int .i64 (if sub = s then 0 else -1)) ∧ w' = w := Any.strings_LastIndex_whole Tryd.lays148 s sub h2 hl w
shelf_try #print axioms Tryd.strings_LastIndex_whole
shelf_tried
end Go.Proofs
