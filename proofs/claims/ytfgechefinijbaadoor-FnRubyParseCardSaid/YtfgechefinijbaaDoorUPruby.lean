/- What program and reference answer over versions of RubyGems. -/
import Derived.Test.YtfgechefinijbaaDoorRPrp
import Derived.Test.YtfgechefinijbaaDoorZUU
namespace Go.Proofs.YtfgechefinijbaaDoor.QU
open Go.RowKit Go.Proofs.YtfgechefinijbaaDoorW.PrintWords Go.Proofs.YtfgechefinijbaaDoorW.PrintLast Go.Proofs.YtfgechefinijbaaDoor.Pk Go.Proofs.YtfgechefinijbaaDoor.Giv Go.Proofs.YtfgechefinijbaaDoor.Ord Go.Proofs.YtfgechefinijbaaDoor.Canon
set_option linter.unusedVariables false

theorem ascB_asc {s : ByteArray} (h : ascB s = true) : asc s := by
  intro i hi
  unfold ascB at h
  rw [List.all_eq_true] at h
  have m : s[i]'hi ∈ s.toList := by
    rw [← getElem_toList s i hi]
    exact List.getElem_mem _
  simpa using h _ m
theorem canon_pieces {s : ByteArray} (h : ascB s = true) : (Cut.cutAt 46 (canon false true s.toList)).map bs = QR.pieces s := by
  unfold QR.pieces
  rw [canonS_asc s (ascB_asc h)]
theorem cutP_f (l : List UInt8) (h : l.length ≤ 40000) : Giv.spec_cut_isPoint.f (bs l) = some ((Cut.cutAt 46 l).map bs) := by
  unfold Giv.spec_cut_isPoint.f
  rw [bs_size, if_pos h, bs_toList]
/-- Is it said how this text compares? -/
def rubyK (s : ByteArray) : Bool := ascB s && rbK (QR.pieces s)
theorem rubyK_asc {s : ByteArray} (h : rubyK s = true) : ascB s = true := by
  unfold rubyK at h
  rw [Bool.and_eq_true] at h
  exact h.1
theorem canon_len {s : ByteArray} (h : ascB s = true) (hs : s.size ≤ 1500) : (canon false true s.toList).length ≤ 40000 := by
  have := canonS_len s
  rw [canonS_asc s (ascB_asc h)] at this
  omega
theorem rubyKnown_ev (s : ByteArray) (hs : s.size ≤ 1500) : Ev (fun k => spec_RubyKnown.f k s) (rubyK s) := by
  unfold spec_RubyKnown.f rubyK
  refine (ascii_ev s (by omega)).bind ?_
  cases h : ascB s with
  | false => exact ev_neg (by simp) (Ev.now _)
  | true =>
    obtain ⟨pl, pm⟩ := QR.pieces_small s hs
    refine ev_pos rfl ((specCanon_ev s (by omega)).bind ?_)
    rw [cutP_f _ (canon_len h hs), canon_pieces h]
    refine ev_some ((rbKnown_ev (QR.pieces s) (by omega) (fun x hx => by have := pm x hx; omega)).bind ?_)
    exact Ev.now _
theorem rubyCmp_ev (a b : ByteArray) (ha : a.size ≤ 1500) (hb : b.size ≤ 1500) : Ev (fun k => Giv.impl_RubyCompare.f k a b) (padL Seg.segC [48] (tl (QR.rubySegs a)) (tl (QR.rubySegs b)), true) := by
  unfold Giv.impl_RubyCompare.f
  refine (QR.rubyParse_ev a ha).bind ((QR.rubyParse_ev b hb).bind ?_)
  show Ev (fun k => (QR.semantic_RubyGemsVersion_compare.f a (QR.rubySegs a) b (QR.rubySegs b)).bind _) _
  rw [QR.rubyCompare_ev a b ha hb]
  exact ev_some (Ev.now _)
end Go.Proofs.YtfgechefinijbaaDoor.QU
