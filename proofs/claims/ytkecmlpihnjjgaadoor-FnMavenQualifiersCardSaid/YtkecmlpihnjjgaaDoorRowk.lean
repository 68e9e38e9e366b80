/- The errors and the table of Maven's qualifiers, out of the row's condition. -/
import Derived.Test.YtkecmlpihnjjgaaDoorRowx
import Derived.Test.YtkecmlpihnjjgaaDoorGivKw
import Derived.Lib.LaidU8
namespace Go.Proofs.YtkecmlpihnjjgaaDoor.Rowx
open Go.ChangeShapes Go.WideShapes Go.ChangeAt Go.RowKit Go.Proofs.YtkecmlpihnjjgaaDoorW.PrintWords Go.Lib
set_option linter.unusedVariables false
theorem lits_inj : ∀ (l m : List ByteArray), (l.map fun s => (DataW.lit (.string s.data.toList) : DataW Unit)) = (m.map fun s => (DataW.lit (.string s.data.toList) : DataW Unit)) → l = m
  | [], [], _ => rfl
  | [], _ :: _, h => by simp at h
  | _ :: _, [], h => by simp at h
  | a :: r, b :: q, h => by
    rw [List.map_cons, List.map_cons] at h
    injection h with h1 h2
    have e : a = b := by
      have h3 : a.data.toList = b.data.toList := by
        injection h1 with h1
        injection h1
      cases a; cases b
      congr
      exact Array.ext' h3
    rw [e, lits_inj r q h2]
theorem kw_data : (Rows.laid_pub_seniority_pub_scalibr_semantic_keywordOrder : DataW Unit) = .slice (Giv.kws.map fun s => .lit (.string s.data.toList)) [] := by kernel_rfl
theorem laidK_of {W : World} {l : List (String × DataW Unit)} (h : laidMetH Tryd.prog l W) (hp : (l.all fun x => x.2.handleName?.isNone) = true)
    (h1 : (l.filter fun x => x.1 == "io.EOF") = [("io.EOF", Rows.laid_io_EOF)]) (h2 : (l.filter fun x => x.1 == "pub-seniority/pub/bigall.errNoDigits") = [("pub-seniority/pub/bigall.errNoDigits", Rows.laid_pub_seniority_pub_bigall_errNoDigits)])
    (h3 : (l.filter fun x => x.1 == "pub-seniority/pub/scalibr/semantic.ErrInvalidVersion") = [("pub-seniority/pub/scalibr/semantic.ErrInvalidVersion", Rows.laid_pub_seniority_pub_scalibr_semantic_ErrInvalidVersion)])
    (h4 : (l.filter fun x => x.1 == "pub-seniority/pub/scalibr/semantic.keywordOrder") = [("pub-seniority/pub/scalibr/semantic.keywordOrder", Rows.laid_pub_seniority_pub_scalibr_semantic_keywordOrder)]) : Giv.LaidK W := by
  refine ⟨laid_of h hp h1 h2 h3, ?_⟩
  rw [MakeChecks.laidMetH_plain _ _ _ hp] at h
  have m1 : ("pub-seniority/pub/scalibr/semantic.keywordOrder", (Rows.laid_pub_seniority_pub_scalibr_semantic_keywordOrder : DataW Unit)) ∈ l := (List.mem_filter.1 (by rw [h4]; exact List.mem_singleton.2 rfl)).1
  obtain ⟨ps, hvs, _⟩ := h
  obtain ⟨g, t, cs, fuel, p, hg, ht, hv, hd⟩ := LaidVars_reads hvs _ _ m1
  obtain rfl : 0 = g := Option.some.inj ((show Tryd.prog.globalNamed "pub-seniority/pub/scalibr/semantic.keywordOrder" = some 0 by kernel_rfl).symm.trans hg)
  obtain rfl : 48 = t := Option.some.inj ((show (Tryd.prog.globals[0]?).map (·.type) = some 48 by kernel_rfl).symm.trans ht)
  rw [kw_data] at hd
  rcases open_strings Tryd.underlying48 Tryd.underlying9 (by kernel_rfl) hd with ⟨_, hx⟩ | ⟨a, len, cap, ss, hcs, _, hl, hm, hz, hx, hc, _⟩
  · cases hx
  · have hx1 := congrArg Prod.fst hx
    have hz' : ss.length = cap := by simpa using hz
    have e : Giv.kws = ss.take len := by
      have hx2 : (DataW.slice (Giv.kws.map fun s => .lit (.string s.data.toList)) [] : DataW Unit) = .slice (strs (ss.take len)) (strs (ss.drop len)) := hx1
      injection hx2 with hx3 _
      exact lits_inj _ _ hx3
    have l7 : len = 7 := by
      have := congrArg List.length e
      rw [List.length_take, Giv.kws_len] at this
      omega
    subst l7
    refine ⟨some a, cap, ?_, ?_⟩
    · have := World.var?_cell hg hv 0
      rw [this]
      have h0 : cs.toList[0]? = some (.slice (some a) 7 cap) := by rw [hcs]; rfl
      simpa using h0
    · refine ⟨Giv.kws_len, by decide, fun _ => ⟨a, rfl, fun j p hj => ⟨[.string p], rfl, rfl, fun i u hu => ?_⟩⟩⟩
      have hi : i = 0 := by
        have := (List.getElem?_eq_some_iff.1 hu).1
        simpa using this
      subst hi
      obtain rfl : Value.string p = u := by simpa using hu
      rw [e, List.getElem?_take] at hj
      split at hj
      · have hlt : j < ss.length := (List.getElem?_eq_some_iff.1 hj).1
        have := hc j hlt
        rw [List.getD_eq_getElem?_getD, hj] at this
        show W.cell? (Go.Addr.add _ (j * 1 + 0)) = _
        rw [Nat.mul_one, Nat.add_zero]
        exact this
      · cases hj
end Go.Proofs.YtkecmlpihnjjgaaDoor.Rowx
