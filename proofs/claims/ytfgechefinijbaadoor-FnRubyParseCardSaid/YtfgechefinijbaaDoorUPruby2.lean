/- What program and reference answer: the segments of versions of RubyGems. -/
import Derived.Test.YtfgechefinijbaaDoorUPruby
import Derived.Test.YtfgechefinijbaaDoorZUU
namespace Go.Proofs.YtfgechefinijbaaDoor.QU
open Go.RowKit Go.Proofs.YtfgechefinijbaaDoorW.PrintWords Go.Proofs.YtfgechefinijbaaDoorW.PrintLast Go.Proofs.YtfgechefinijbaaDoor.Pk Go.Proofs.YtfgechefinijbaaDoor.Giv Go.Proofs.YtfgechefinijbaaDoor.Ord Go.Proofs.YtfgechefinijbaaDoor.Canon
set_option linter.unusedVariables false

theorem implParse_ev (s : ByteArray) (hs : s.size ≤ 1500) : Ev (fun k => impl_RubyParse.f k s) (QR.rubySegs s) := by
  have l := QR.segs_len s
  obtain ⟨pl, pm⟩ := QR.pieces_small s hs
  unfold impl_RubyParse.f
  refine (QR.rubyParse_ev s hs).bind ?_
  unfold semantic_ZZRubyTold.f
  refine ev_some (ev_pos ?_ (Ev.now _))
  simp only [List.length_nil]
  omega
theorem specParse_ev (s : ByteArray) (hs : s.size ≤ 1500) (h : ascB s = true) : Ev (fun k => spec_RubyParse.f k s) (QR.rubySegs s) := by
  obtain ⟨pl, pm⟩ := QR.pieces_small s hs
  have c1 := List.Sublist.length_le (List.takeWhile_sublist isNum (l := QR.pieces s))
  have c2 := List.Sublist.length_le (List.dropWhile_sublist isNum (l := QR.pieces s))
  have a := trimZ_len ((QR.pieces s).takeWhile isNum)
  have b := trimZ_len ((QR.pieces s).dropWhile isNum)
  unfold spec_RubyParse.f
  refine (specCanon_ev s (by omega)).bind ?_
  rw [cutP_f _ (canon_len h hs), canon_pieces h]
  refine ev_some ((groups_ev (QR.pieces s) (by omega) (fun x hx => by have := pm x hx; omega)).bind ?_)
  exact (specTrim_ev ((QR.pieces s).takeWhile isNum) (by omega)).bind ((specTrim_ev ((QR.pieces s).dropWhile isNum) (by omega)).bind (ev_pos (by omega) (Ev.now _)))
end Go.Proofs.YtfgechefinijbaaDoor.QU
