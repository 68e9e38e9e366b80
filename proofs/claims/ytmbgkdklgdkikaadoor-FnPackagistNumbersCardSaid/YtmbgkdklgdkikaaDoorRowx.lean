/- What the rows of the statements over texts and lists of texts have in common: the arguments read, the errors laid. -/
import Derived.Test.YtmbgkdklgdkikaaDoorZC
import Derived.Test.YtmbgkdklgdkikaaDoorRows
import Derived.SliceStrings
import Derived.WalkKit
import Derived.ProofKit
import Derived.Below
import Derived.SizedLaws
import Derived.OpenShut
import Derived.ShutString
import Derived.ChangeOld
import Derived.LaidMore
import Derived.LaidSub
import Derived.Stop.LaidErr
import Derived.Stop.Joined
import Derived.MakeChecks
namespace Go.Proofs.YtmbgkdklgdkikaaDoor.Rowx
open Go.ChangeShapes Go.WideShapes Go.ChangeAt Go.RowKit Go.Proofs.YtmbgkdklgdkikaaDoorW.PrintWords
set_option linter.unusedVariables false

/-- A list of texts that came in. -/
theorem arg_strings {H : Type} {enc : TypeId × Value → H} {P : Program} {W : World} {base : Nat} {t e : TypeId} {v : Value} {d : DataW H} {p : List MemPlace} (ht : P.underlying t = some (.slice e)) (he : P.underlying e = some .string) (hc : P.cellsOf e = 1)
    (hval : Value.okWide P W .any base t v) (h : DataW.Trod enc P W 0 (fun _ => true) true t v d p) :
    ∃ (A : Option Addr) (c : Nat) (l : List ByteArray), v = .slice A l.length c ∧ l.length ≤ c ∧ l.length ≤ 9223372036854775807 ∧ Kd.C Kd.string W A l.length l ∧ (∀ s ∈ l, s.size ≤ 9223372036854775807) ∧ (∀ x ∈ p, x.block < W.heap.size) := by
  have lt : ∀ x ∈ p, x.block < W.heap.size := by
    obtain ⟨m, hm⟩ := h
    exact DataW.trod_lt m _ _ _ hm
  obtain ⟨a, len, cap, rfl⟩ := okWide_slice ht hval
  obtain ⟨fuel, hf⟩ := h
  rcases open_strings ht he hc hf with ⟨hcs, _⟩ | ⟨x, l, c, ss, hcs, _, hl, hm, hz, _, hcell, hws⟩
  · simp [Value.cells] at hcs
    obtain ⟨rfl, rfl, rfl⟩ := hcs
    exact ⟨none, 0, [], rfl, Nat.le_refl _, by simp, Kd.C_nil _ _, by simp, lt⟩
  · simp [Value.cells] at hcs
    obtain ⟨rfl, rfl, rfl⟩ := hcs
    have hz' : ss.length = cap := by simpa using hz
    have len' : (ss.take len).length = len := by rw [List.length_take]; omega
    have hm' : cap ≤ 9223372036854775807 := by simpa [maxLen] using hm
    refine ⟨some x, cap, ss.take len, by rw [len'], by omega, by omega, ?_, fun s hs => by simpa [maxLen] using hws s (List.mem_of_mem_take hs), lt⟩
    refine ⟨rfl, by omega, fun _ => ⟨x, rfl, ?_⟩⟩
    intro j q hj
    have hlt : j < (ss.take len).length := (List.getElem?_eq_some_iff.1 hj).1
    have hq : ss[j]? = some q := by
      rw [List.getElem?_take] at hj
      split at hj
      · exact hj
      · cases hj
    refine ⟨[.string q], rfl, rfl, ?_⟩
    intro i u hu
    have hi : i = 0 := by
      have := (List.getElem?_eq_some_iff.1 hu).1
      simp at this
      exact this
    subst hi
    have hu' : u = .string q := by simpa using hu.symm
    rw [hu']
    show W.cell? (Go.Addr.add _ (j * 1 + 0)) = _
    rw [Nat.mul_one, Nat.add_zero]
    have := hcell j (by omega)
    rw [this, List.getD_eq_getElem?_getD, hq]
    rfl
theorem errRow (u : TypeId) (h : Tryd.prog.typeName? 3 u = some "*errors.errorString") : u = 97 :=
  typeName_ptr_named (nm := "errors.errorString") (by kernel_rfl) (by kernel_rfl) (by decide) u h
/-- A listed error's cell. -/
theorem laid_cell {W : World} {l : List (String × DataW Unit)} (h : laidMet Tryd.prog l W) (n : String) (g : Nat) (text : List UInt8) (hm : (l.filter fun x => x.1 == n) = [(n, .iface "*errors.errorString" (.ptr (.agg [.lit (.string text)])))])
    (hg : Tryd.prog.globalNamed n = some g) (ht : (Tryd.prog.globals[g]?).map (·.type) = some 48) : ∃ a, W.cell? ⟨g, 0, none⟩ = some (Giv.errv a) := by
  have h1 := h.filter (fun x => x.1 == n)
  rw [hm] at h1
  obtain ⟨a, s, hv, _⟩ := laid_sentinel h1 hg ht Tryd.underlying48 errRow Tryd.underlying97 Tryd.underlying99 rfl rfl Tryd.underlying9 (by kernel_rfl) (by kernel_rfl)
  refine ⟨a, ?_⟩
  rw [World.var?_cell hg hv 0]
  rfl
theorem laid_of {W : World} {l : List (String × DataW Unit)} (h : laidMetH Tryd.prog l W) (hp : (l.all fun x => x.2.handleName?.isNone) = true)
    (h1 : (l.filter fun x => x.1 == "io.EOF") = [("io.EOF", Rows.laid_io_EOF)]) (h2 : (l.filter fun x => x.1 == "pub-seniority/pub/bigall.errNoDigits") = [("pub-seniority/pub/bigall.errNoDigits", Rows.laid_pub_seniority_pub_bigall_errNoDigits)])
    (h3 : (l.filter fun x => x.1 == "pub-seniority/pub/scalibr/semantic.ErrInvalidVersion") = [("pub-seniority/pub/scalibr/semantic.ErrInvalidVersion", Rows.laid_pub_seniority_pub_scalibr_semantic_ErrInvalidVersion)]) : Giv.Laid W := by
  rw [MakeChecks.laidMetH_plain _ _ _ hp] at h
  exact ⟨laid_cell h _ 1 _ h1 (by kernel_rfl) (by kernel_rfl), laid_cell h _ 5 _ h2 (by kernel_rfl) (by kernel_rfl), laid_cell h _ 0 _ h3 (by kernel_rfl) (by kernel_rfl)⟩
theorem laidOut : laidOutB Tryd.prog = true := by kernel_rfl
end Go.Proofs.YtmbgkdklgdkikaaDoor.Rowx
