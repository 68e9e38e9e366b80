/-
  No cell of these rows narrows 'for every input' (looked for: loops, veiled, ifaces, maps, wideKeys, modest, calm, conditions, laid).
  DERIVED. THE GIVEN ROWS OF THIS SEAT. 6 by the template 'for every input the law returns true; each argument reads behind the call as it read before'; 0 by the template 'total and deterministic' (their statements: YtojabknjniihmaaTotals.lean).
  GIVEN WITH THE SEED: the statements are not yours to turn. If you find one false, say at which input.
  Laid BY PROGRAM, IN A SANDBOX (cutbox-rows.mjs): the forced cells as the released guide's own fill.sh prints them over the translation 04bfe05020303202… (all of the seat's roots in one cut). By AI agents, Wed Nov 11 2026. No macro, syntax, notation, axiom, sorry.
-/
import Derived.Test.YtojabknjniihmaaChecked
import GoSem.Claim
import GoSem.ClaimJoined
import GoSem.ClaimMapViews
import Derived.JoinedTies
import Derived.KernelRfl
namespace Go.Proofs.Ytojabknjniihmaa
/- THE CELL 'sum', in the pinned program and in every row, IS THE sha256 OF THE DUMP (.gsa) THAT YtojabknjniihmaaProg.lean LOADS. Nothing in Lean hashes anything: it is a label: what it is worth is what the hold of that sum in a sandbox is worth. -/
noncomputable def Try.pinned : Pinned := { name := "ytojabknjniihmaa", sum := "04bfe05020303202c09a405ff4a2dca4bb6f806838920b0be7655064bed1bd96", checked := Try.checked }
namespace Rows
def none {H : Type} : Left H := { results := [], args := [] }

/-- 'laws.FnSuffixWeight': WHATEVER THE INPUT: true; the input reads as it did. -/
def fnSuffixWeightSpec : ChangeSpec := { name := "fnSuffixWeight", fn := fun _ => fun
  | [d] => { results := [.lit (.bool true)], args := [d] }
  | _ => none }
def fnSuffixWeightRow : OpenClaim := { program := "ytojabknjniihmaa", sum := "04bfe05020303202c09a405ff4a2dca4bb6f806838920b0be7655064bed1bd96", func := "pub-seniority/laws.FnSuffixWeight", spec := "fnSuffixWeight", apart := false }
def FnSuffixWeightSaid : Prop := fnSuffixWeightRow.holds Try.pinned (OpenSpec.ofChange fnSuffixWeightSpec)

/-- ITS FALSE NEIGHBOUR: 'it returns false'. Refute it at one input. -/
def fnSuffixWeightWrong : ChangeSpec := { name := "fnSuffixWeight", fn := fun _ => fun
  | [d] => { results := [.lit (.bool false)], args := [d] }
  | _ => none }
def FnSuffixWeightWrongFalsely : Prop := fnSuffixWeightRow.holds Try.pinned (OpenSpec.ofChange fnSuffixWeightWrong)

/-- 'laws.FnPackagistWeight': WHATEVER THE INPUT: true; the input reads as it did. -/
def fnPackagistWeightSpec : ChangeSpec := { name := "fnPackagistWeight", fn := fun _ => fun
  | [d] => { results := [.lit (.bool true)], args := [d] }
  | _ => none }
def fnPackagistWeightRow : OpenClaim := { program := "ytojabknjniihmaa", sum := "04bfe05020303202c09a405ff4a2dca4bb6f806838920b0be7655064bed1bd96", func := "pub-seniority/laws.FnPackagistWeight", spec := "fnPackagistWeight", apart := false }
def FnPackagistWeightSaid : Prop := fnPackagistWeightRow.holds Try.pinned (OpenSpec.ofChange fnPackagistWeightSpec)

/-- ITS FALSE NEIGHBOUR: 'it returns false'. Refute it at one input. -/
def fnPackagistWeightWrong : ChangeSpec := { name := "fnPackagistWeight", fn := fun _ => fun
  | [d] => { results := [.lit (.bool false)], args := [d] }
  | _ => none }
def FnPackagistWeightWrongFalsely : Prop := fnPackagistWeightRow.holds Try.pinned (OpenSpec.ofChange fnPackagistWeightWrong)

/-- 'laws.FnSplitInclusive': WHATEVER THE INPUT: true; the input reads as it did. -/
def fnSplitInclusiveSpec : ChangeSpec := { name := "fnSplitInclusive", fn := fun _ => fun
  | [d1, d2] => { results := [.lit (.bool true)], args := [d1, d2] }
  | _ => none }
def fnSplitInclusiveRow : OpenClaim := { program := "ytojabknjniihmaa", sum := "04bfe05020303202c09a405ff4a2dca4bb6f806838920b0be7655064bed1bd96", func := "pub-seniority/laws.FnSplitInclusive", spec := "fnSplitInclusive", apart := false }
def FnSplitInclusiveSaid : Prop := fnSplitInclusiveRow.holds Try.pinned (OpenSpec.ofChange fnSplitInclusiveSpec)

/-- ITS FALSE NEIGHBOUR: 'it returns false'. Refute it at one input. -/
def fnSplitInclusiveWrong : ChangeSpec := { name := "fnSplitInclusive", fn := fun _ => fun
  | [d1, d2] => { results := [.lit (.bool false)], args := [d1, d2] }
  | _ => none }
def FnSplitInclusiveWrongFalsely : Prop := fnSplitInclusiveRow.holds Try.pinned (OpenSpec.ofChange fnSplitInclusiveWrong)

/-- 'laws.FnRedHatParse': WHATEVER THE INPUT: true; the input reads as it did. -/
def fnRedHatParseSpec : ChangeSpec := { name := "fnRedHatParse", fn := fun _ => fun
  | [d] => { results := [.lit (.bool true)], args := [d] }
  | _ => none }
def fnRedHatParseRow : OpenClaim := { program := "ytojabknjniihmaa", sum := "04bfe05020303202c09a405ff4a2dca4bb6f806838920b0be7655064bed1bd96", func := "pub-seniority/laws.FnRedHatParse", spec := "fnRedHatParse", apart := false }
def FnRedHatParseSaid : Prop := fnRedHatParseRow.holds Try.pinned (OpenSpec.ofChange fnRedHatParseSpec)

/-- ITS FALSE NEIGHBOUR: 'it returns false'. Refute it at one input. -/
def fnRedHatParseWrong : ChangeSpec := { name := "fnRedHatParse", fn := fun _ => fun
  | [d] => { results := [.lit (.bool false)], args := [d] }
  | _ => none }
def FnRedHatParseWrongFalsely : Prop := fnRedHatParseRow.holds Try.pinned (OpenSpec.ofChange fnRedHatParseWrong)

/-- 'laws.FnRedHatBehind': WHATEVER THE INPUT: true; the input reads as it did. -/
def fnRedHatBehindSpec : ChangeSpec := { name := "fnRedHatBehind", fn := fun _ => fun
  | [d1, d2] => { results := [.lit (.bool true)], args := [d1, d2] }
  | _ => none }
def fnRedHatBehindRow : OpenClaim := { program := "ytojabknjniihmaa", sum := "04bfe05020303202c09a405ff4a2dca4bb6f806838920b0be7655064bed1bd96", func := "pub-seniority/laws.FnRedHatBehind", spec := "fnRedHatBehind", inPlace := ["internal/abi.NoEscape", "internal/bytealg.abigen_runtime_cmpstring"], unfollowed := true, recurses := true, apart := false }
def FnRedHatBehindSaid : Prop := fnRedHatBehindRow.holds Try.pinned (OpenSpec.ofChange fnRedHatBehindSpec)

/-- ITS FALSE NEIGHBOUR: 'it returns false'. Refute it at one input. -/
def fnRedHatBehindWrong : ChangeSpec := { name := "fnRedHatBehind", fn := fun _ => fun
  | [d1, d2] => { results := [.lit (.bool false)], args := [d1, d2] }
  | _ => none }
def FnRedHatBehindWrongFalsely : Prop := fnRedHatBehindRow.holds Try.pinned (OpenSpec.ofChange fnRedHatBehindWrong)

/-- 'laws.FnRedHatParts': WHATEVER THE INPUT: true; the input reads as it did. -/
def fnRedHatPartsSpec : ChangeSpec := { name := "fnRedHatParts", fn := fun _ => fun
  | [d1, d2] => { results := [.lit (.bool true)], args := [d1, d2] }
  | _ => none }
def fnRedHatPartsRow : OpenClaim := { program := "ytojabknjniihmaa", sum := "04bfe05020303202c09a405ff4a2dca4bb6f806838920b0be7655064bed1bd96", func := "pub-seniority/laws.FnRedHatParts", spec := "fnRedHatParts", inPlace := ["internal/abi.NoEscape", "internal/bytealg.abigen_runtime_cmpstring"], unfollowed := true, recurses := true, apart := false }
def FnRedHatPartsSaid : Prop := fnRedHatPartsRow.holds Try.pinned (OpenSpec.ofChange fnRedHatPartsSpec)

/-- ITS FALSE NEIGHBOUR: 'it returns false'. Refute it at one input. -/
def fnRedHatPartsWrong : ChangeSpec := { name := "fnRedHatParts", fn := fun _ => fun
  | [d1, d2] => { results := [.lit (.bool false)], args := [d1, d2] }
  | _ => none }
def FnRedHatPartsWrongFalsely : Prop := fnRedHatPartsRow.holds Try.pinned (OpenSpec.ofChange fnRedHatPartsWrong)

/- THE SECOND FORM. 'bulk': how many values and letters a reading holds, each counted each time it is reached (what is shared counts as often as it is met; a slice's spare places count too). A statement '..UptoSaid' is the law's where the arguments, and the package variables that the reading takes, are together of bulk at most 1048576: NARROWER than '..Said'. Prove '..Said' where nothing that the law and all that it calls make is longer than what came in: it says more and counts as full. Else prove '..UptoSaid'. A law counts once. -/
mutual
def uptoBulk {H : Type} : DataW H → Nat
  | .lit (.string bytes) => bytes.length + 1
  | .lit _ => 1
  | .nil => 1
  | .ptr d => uptoBulk d + 1
  | .slice elems spare => uptoBulkAll elems + uptoBulkAll spare + 1
  | .agg parts => uptoBulkAll parts + 1
  | .iface _ d => uptoBulk d + 1
  | .map entries => uptoBulkEntries entries + 1
  | .held _ => 1
def uptoBulkAll {H : Type} : List (DataW H) → Nat
  | [] => 0
  | d :: r => uptoBulk d + uptoBulkAll r
def uptoBulkEntries {H : Type} : List (Lit × DataW H) → Nat
  | [] => 0
  | x :: r => uptoBulkEntry x + uptoBulkEntries r
def uptoBulkEntry {H : Type} : Lit × DataW H → Nat
  | (.string bytes, d) => bytes.length + uptoBulk d + 1
  | (_, d) => uptoBulk d + 1
 end
def uptoSmall : (H : Type) → List (DataW H) → Bool := fun _ ds => decide (uptoBulkAll ds ≤ 1048576)
def OpenSpec.upto (s : _root_.Go.ChangeSpec) : _root_.Go.OpenSpec := { _root_.Go.OpenSpec.ofChange s with cond := some uptoSmall }

/-- 'laws.FnSuffixWeight', WHERE WHAT IT READS IS OF BULK AT MOST 1048576: true; the input reads as it did. -/
def fnSuffixWeightUptoRow : OpenClaim := { program := "ytojabknjniihmaa", sum := "04bfe05020303202c09a405ff4a2dca4bb6f806838920b0be7655064bed1bd96", func := "pub-seniority/laws.FnSuffixWeight", spec := "fnSuffixWeight", apart := false, narrowed := true }
def FnSuffixWeightUptoSaid : Prop := fnSuffixWeightUptoRow.holds Try.pinned (OpenSpec.upto fnSuffixWeightSpec)

/-- 'laws.FnPackagistWeight', WHERE WHAT IT READS IS OF BULK AT MOST 1048576: true; the input reads as it did. -/
def fnPackagistWeightUptoRow : OpenClaim := { program := "ytojabknjniihmaa", sum := "04bfe05020303202c09a405ff4a2dca4bb6f806838920b0be7655064bed1bd96", func := "pub-seniority/laws.FnPackagistWeight", spec := "fnPackagistWeight", apart := false, narrowed := true }
def FnPackagistWeightUptoSaid : Prop := fnPackagistWeightUptoRow.holds Try.pinned (OpenSpec.upto fnPackagistWeightSpec)

/-- 'laws.FnSplitInclusive', WHERE WHAT IT READS IS OF BULK AT MOST 1048576: true; the input reads as it did. -/
def fnSplitInclusiveUptoRow : OpenClaim := { program := "ytojabknjniihmaa", sum := "04bfe05020303202c09a405ff4a2dca4bb6f806838920b0be7655064bed1bd96", func := "pub-seniority/laws.FnSplitInclusive", spec := "fnSplitInclusive", apart := false, narrowed := true }
def FnSplitInclusiveUptoSaid : Prop := fnSplitInclusiveUptoRow.holds Try.pinned (OpenSpec.upto fnSplitInclusiveSpec)

/-- 'laws.FnRedHatParse', WHERE WHAT IT READS IS OF BULK AT MOST 1048576: true; the input reads as it did. -/
def fnRedHatParseUptoRow : OpenClaim := { program := "ytojabknjniihmaa", sum := "04bfe05020303202c09a405ff4a2dca4bb6f806838920b0be7655064bed1bd96", func := "pub-seniority/laws.FnRedHatParse", spec := "fnRedHatParse", apart := false, narrowed := true }
def FnRedHatParseUptoSaid : Prop := fnRedHatParseUptoRow.holds Try.pinned (OpenSpec.upto fnRedHatParseSpec)

/-- 'laws.FnRedHatBehind', WHERE WHAT IT READS IS OF BULK AT MOST 1048576: true; the input reads as it did. -/
def fnRedHatBehindUptoRow : OpenClaim := { program := "ytojabknjniihmaa", sum := "04bfe05020303202c09a405ff4a2dca4bb6f806838920b0be7655064bed1bd96", func := "pub-seniority/laws.FnRedHatBehind", spec := "fnRedHatBehind", inPlace := ["internal/abi.NoEscape", "internal/bytealg.abigen_runtime_cmpstring"], unfollowed := true, recurses := true, apart := false, narrowed := true }
def FnRedHatBehindUptoSaid : Prop := fnRedHatBehindUptoRow.holds Try.pinned (OpenSpec.upto fnRedHatBehindSpec)

/-- 'laws.FnRedHatParts', WHERE WHAT IT READS IS OF BULK AT MOST 1048576: true; the input reads as it did. -/
def fnRedHatPartsUptoRow : OpenClaim := { program := "ytojabknjniihmaa", sum := "04bfe05020303202c09a405ff4a2dca4bb6f806838920b0be7655064bed1bd96", func := "pub-seniority/laws.FnRedHatParts", spec := "fnRedHatParts", inPlace := ["internal/abi.NoEscape", "internal/bytealg.abigen_runtime_cmpstring"], unfollowed := true, recurses := true, apart := false, narrowed := true }
def FnRedHatPartsUptoSaid : Prop := fnRedHatPartsUptoRow.holds Try.pinned (OpenSpec.upto fnRedHatPartsSpec)

end Rows
end Go.Proofs.Ytojabknjniihmaa
