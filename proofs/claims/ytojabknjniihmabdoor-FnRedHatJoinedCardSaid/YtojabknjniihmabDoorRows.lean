/-
  NARROWER THAN 'FOR EVERY INPUT', by the rows' own cells (each row's printed sentence says how): FnRedHatSorted: laid · FnRedHatPartsOrder: laid · FnRedHatJoined: laid.
  DERIVED. THE GIVEN ROWS OF THIS SEAT. 3 by the template 'for every input the law returns true; each argument reads behind the call as it read before'; 0 by the template 'total and deterministic' (their statements: YtojabknjniihmabDoorTotals.lean).
  GIVEN WITH THE SEED: the statements are not yours to turn. If you find one false, say at which input.
  Laid BY PROGRAM, IN A SANDBOX (cutbox-rows.mjs): the forced cells as the released guide's own fill.sh prints them over the translation 65501fc7f66f855d… (all of the seat's roots in one cut). By AI agents, Wed Nov 11 2026. No macro, syntax, notation, axiom, sorry.
-/
import Derived.Test.YtojabknjniihmabDoorChecked
import GoSem.Claim
import GoSem.ClaimJoined
import GoSem.ClaimMapViews
import Derived.JoinedTies
import Derived.KernelRfl
namespace Go.Proofs.YtojabknjniihmabDoor
/- THE CELL 'sum', in the pinned program and in every row, IS THE sha256 OF THE DUMP (.gsa) THAT YtojabknjniihmabDoorProg.lean LOADS. Nothing in Lean hashes anything: it is a label: what it is worth is what the hold of that sum in a sandbox is worth. -/
noncomputable def Tryd.pinned : Pinned := { name := "ytojabknjniihmabdoor", sum := "65501fc7f66f855d8d5699994f7d91de432c108a97e80c656468e74c8d591a94", checked := Tryd.checked }
namespace Rows
def none {H : Type} : Left H := { results := [], args := [] }

/- WHAT THE LISTED PACKAGE-LEVEL VARIABLES READ AS WHEN THE CALL BEGINS. Each datum BY PROGRAM (the guide's laid-datum.mjs) off the statement by which the dump's own 'gosem.cut.vars' lays the variable. In a bare row this is a premise. The card (YtojabknjniihmabDoorCards.lean) ties it to the program's text. -/
def laid_pub_seniority_pub_scalibr_semantic_ErrNotSameEcosystem {H : Type} : DataW H := .iface "*errors.errorString" (.ptr (.agg [.lit (.string [118, 101, 114, 115, 105, 111, 110, 32, 105, 115, 32, 110, 111, 116, 32, 111, 102, 32, 116, 104, 101, 32, 115, 97, 109, 101, 32, 101, 99, 111, 115, 121, 115, 116, 101, 109])]))

/-- 'laws.FnRedHatSorted': WHATEVER THE INPUT: true; the input reads as it did. -/
def fnRedHatSortedSpec : ChangeSpec := { name := "fnRedHatSorted", fn := fun _ => fun
  | [d] => { results := [.lit (.bool true)], args := [d] }
  | _ => none }
def fnRedHatSortedRow : OpenClaim := { program := "ytojabknjniihmabdoor", sum := "65501fc7f66f855d8d5699994f7d91de432c108a97e80c656468e74c8d591a94", func := "pub-seniority/laws.FnRedHatSorted", spec := "fnRedHatSorted", inPlace := ["internal/abi.NoEscape", "internal/bytealg.abigen_runtime_cmpstring"], unfollowed := true, recurses := true, named := ["pub-seniority/pub/scalibr/semantic.ErrNotSameEcosystem"], apart := false, laid := [("pub-seniority/pub/scalibr/semantic.ErrNotSameEcosystem", laid_pub_seniority_pub_scalibr_semantic_ErrNotSameEcosystem)] }
def FnRedHatSortedSaid : Prop := fnRedHatSortedRow.holds Tryd.pinned (OpenSpec.ofChange fnRedHatSortedSpec)

/-- ITS FALSE NEIGHBOUR: 'it returns false'. Refute it at one input. -/
def fnRedHatSortedWrong : ChangeSpec := { name := "fnRedHatSorted", fn := fun _ => fun
  | [d] => { results := [.lit (.bool false)], args := [d] }
  | _ => none }
def FnRedHatSortedWrongFalsely : Prop := fnRedHatSortedRow.holds Tryd.pinned (OpenSpec.ofChange fnRedHatSortedWrong)

/-- 'laws.FnRedHatPartsOrder': WHATEVER THE INPUT: true; the input reads as it did. -/
def fnRedHatPartsOrderSpec : ChangeSpec := { name := "fnRedHatPartsOrder", fn := fun _ => fun
  | [d1, d2, d3] => { results := [.lit (.bool true)], args := [d1, d2, d3] }
  | _ => none }
def fnRedHatPartsOrderRow : OpenClaim := { program := "ytojabknjniihmabdoor", sum := "65501fc7f66f855d8d5699994f7d91de432c108a97e80c656468e74c8d591a94", func := "pub-seniority/laws.FnRedHatPartsOrder", spec := "fnRedHatPartsOrder", inPlace := ["internal/abi.NoEscape", "internal/bytealg.abigen_runtime_cmpstring"], unfollowed := true, recurses := true, named := ["pub-seniority/pub/scalibr/semantic.ErrNotSameEcosystem"], apart := false, laid := [("pub-seniority/pub/scalibr/semantic.ErrNotSameEcosystem", laid_pub_seniority_pub_scalibr_semantic_ErrNotSameEcosystem)] }
def FnRedHatPartsOrderSaid : Prop := fnRedHatPartsOrderRow.holds Tryd.pinned (OpenSpec.ofChange fnRedHatPartsOrderSpec)

/-- ITS FALSE NEIGHBOUR: 'it returns false'. Refute it at one input. -/
def fnRedHatPartsOrderWrong : ChangeSpec := { name := "fnRedHatPartsOrder", fn := fun _ => fun
  | [d1, d2, d3] => { results := [.lit (.bool false)], args := [d1, d2, d3] }
  | _ => none }
def FnRedHatPartsOrderWrongFalsely : Prop := fnRedHatPartsOrderRow.holds Tryd.pinned (OpenSpec.ofChange fnRedHatPartsOrderWrong)

/-- 'laws.FnRedHatJoined': WHATEVER THE INPUT: true; the input reads as it did. -/
def fnRedHatJoinedSpec : ChangeSpec := { name := "fnRedHatJoined", fn := fun _ => fun
  | [d1, d2, d3, d4, d5, d6] => { results := [.lit (.bool true)], args := [d1, d2, d3, d4, d5, d6] }
  | _ => none }
def fnRedHatJoinedRow : OpenClaim := { program := "ytojabknjniihmabdoor", sum := "65501fc7f66f855d8d5699994f7d91de432c108a97e80c656468e74c8d591a94", func := "pub-seniority/laws.FnRedHatJoined", spec := "fnRedHatJoined", inPlace := ["internal/abi.NoEscape", "internal/bytealg.abigen_runtime_cmpstring"], unfollowed := true, recurses := true, named := ["pub-seniority/pub/scalibr/semantic.ErrNotSameEcosystem"], apart := false, laid := [("pub-seniority/pub/scalibr/semantic.ErrNotSameEcosystem", laid_pub_seniority_pub_scalibr_semantic_ErrNotSameEcosystem)] }
def FnRedHatJoinedSaid : Prop := fnRedHatJoinedRow.holds Tryd.pinned (OpenSpec.ofChange fnRedHatJoinedSpec)

/-- ITS FALSE NEIGHBOUR: 'it returns false'. Refute it at one input. -/
def fnRedHatJoinedWrong : ChangeSpec := { name := "fnRedHatJoined", fn := fun _ => fun
  | [d1, d2, d3, d4, d5, d6] => { results := [.lit (.bool false)], args := [d1, d2, d3, d4, d5, d6] }
  | _ => none }
def FnRedHatJoinedWrongFalsely : Prop := fnRedHatJoinedRow.holds Tryd.pinned (OpenSpec.ofChange fnRedHatJoinedWrong)

/- THE SECOND FORM. 'bulk': how many values and letters a reading holds, each counted each time it is reached (what is shared counts as often as it is met; a slice's spare places count too). A statement '..UptoSaid' is the law's where the arguments, and the package variables that the reading takes, are together of bulk at most 1048576: NARROWER than '..Said'. Prove '..Said' where nothing that the law and all that it calls make is longer than what came in: it says more and counts as full. Else prove '..UptoSaid'. A law counts once. -/
mutual
def uptoBulk {H : Type} : DataW H → Nat
  | .lit (.string bytes) => bytes.length + 1
  | .lit _ => 1
  | .nil => 1
  | .ptr d => uptoBulk d + 1
  | .slice elems spare => uptoBulkAll elems + uptoBulkAll spare + 1
  | .agg parts => uptoBulkAll parts + 1
  | .iface _ d => uptoBulk d + 1
  | .map entries => uptoBulkEntries entries + 1
  | .held _ => 1
def uptoBulkAll {H : Type} : List (DataW H) → Nat
  | [] => 0
  | d :: r => uptoBulk d + uptoBulkAll r
def uptoBulkEntries {H : Type} : List (Lit × DataW H) → Nat
  | [] => 0
  | x :: r => uptoBulkEntry x + uptoBulkEntries r
def uptoBulkEntry {H : Type} : Lit × DataW H → Nat
  | (.string bytes, d) => bytes.length + uptoBulk d + 1
  | (_, d) => uptoBulk d + 1
 end
def uptoSmall : (H : Type) → List (DataW H) → Bool := fun _ ds => decide (uptoBulkAll ds ≤ 1048576)
def OpenSpec.upto (s : _root_.Go.ChangeSpec) : _root_.Go.OpenSpec := { _root_.Go.OpenSpec.ofChange s with cond := some uptoSmall }

/-- 'laws.FnRedHatSorted', WHERE WHAT IT READS IS OF BULK AT MOST 1048576: true; the input reads as it did. -/
def fnRedHatSortedUptoRow : OpenClaim := { program := "ytojabknjniihmabdoor", sum := "65501fc7f66f855d8d5699994f7d91de432c108a97e80c656468e74c8d591a94", func := "pub-seniority/laws.FnRedHatSorted", spec := "fnRedHatSorted", inPlace := ["internal/abi.NoEscape", "internal/bytealg.abigen_runtime_cmpstring"], unfollowed := true, recurses := true, named := ["pub-seniority/pub/scalibr/semantic.ErrNotSameEcosystem"], apart := false, laid := [("pub-seniority/pub/scalibr/semantic.ErrNotSameEcosystem", laid_pub_seniority_pub_scalibr_semantic_ErrNotSameEcosystem)], narrowed := true }
def FnRedHatSortedUptoSaid : Prop := fnRedHatSortedUptoRow.holds Tryd.pinned (OpenSpec.upto fnRedHatSortedSpec)

/-- 'laws.FnRedHatPartsOrder', WHERE WHAT IT READS IS OF BULK AT MOST 1048576: true; the input reads as it did. -/
def fnRedHatPartsOrderUptoRow : OpenClaim := { program := "ytojabknjniihmabdoor", sum := "65501fc7f66f855d8d5699994f7d91de432c108a97e80c656468e74c8d591a94", func := "pub-seniority/laws.FnRedHatPartsOrder", spec := "fnRedHatPartsOrder", inPlace := ["internal/abi.NoEscape", "internal/bytealg.abigen_runtime_cmpstring"], unfollowed := true, recurses := true, named := ["pub-seniority/pub/scalibr/semantic.ErrNotSameEcosystem"], apart := false, laid := [("pub-seniority/pub/scalibr/semantic.ErrNotSameEcosystem", laid_pub_seniority_pub_scalibr_semantic_ErrNotSameEcosystem)], narrowed := true }
def FnRedHatPartsOrderUptoSaid : Prop := fnRedHatPartsOrderUptoRow.holds Tryd.pinned (OpenSpec.upto fnRedHatPartsOrderSpec)

/-- 'laws.FnRedHatJoined', WHERE WHAT IT READS IS OF BULK AT MOST 1048576: true; the input reads as it did. -/
def fnRedHatJoinedUptoRow : OpenClaim := { program := "ytojabknjniihmabdoor", sum := "65501fc7f66f855d8d5699994f7d91de432c108a97e80c656468e74c8d591a94", func := "pub-seniority/laws.FnRedHatJoined", spec := "fnRedHatJoined", inPlace := ["internal/abi.NoEscape", "internal/bytealg.abigen_runtime_cmpstring"], unfollowed := true, recurses := true, named := ["pub-seniority/pub/scalibr/semantic.ErrNotSameEcosystem"], apart := false, laid := [("pub-seniority/pub/scalibr/semantic.ErrNotSameEcosystem", laid_pub_seniority_pub_scalibr_semantic_ErrNotSameEcosystem)], narrowed := true }
def FnRedHatJoinedUptoSaid : Prop := fnRedHatJoinedUptoRow.holds Tryd.pinned (OpenSpec.upto fnRedHatJoinedSpec)

end Rows
end Go.Proofs.YtojabknjniihmabDoor
