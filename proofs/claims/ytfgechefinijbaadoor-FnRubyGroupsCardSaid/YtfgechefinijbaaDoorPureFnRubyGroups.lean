/- The statement FnRubyGroups: where a version's numbers end and its build begins, for all lists of texts.
   No condition beyond those that the statement itself states (its card ties the listed variables to the program's text). -/
import Derived.Test.YtfgechefinijbaaDoorGPint
import Derived.Test.YtfgechefinijbaaDoorGPtexts
import Derived.Test.YtfgechefinijbaaDoorZGP
namespace Go.Proofs.YtfgechefinijbaaDoor.Pure
open Go.RowKit Go.Proofs.YtfgechefinijbaaDoor.QG Go.Proofs.YtfgechefinijbaaDoorW.PrintWords Go.Proofs.YtfgechefinijbaaDoorW.PrintLast Go.Proofs.YtfgechefinijbaaDoor.Pk Go.Proofs.YtfgechefinijbaaDoor.Giv Go.Proofs.YtfgechefinijbaaDoor.Ord
theorem rubyNumber_ev (s : ByteArray) (hs : s.size ≤ 40000) : Ev (fun k => spec_rubyNumber.f k s) (isNum s) := by
  unfold spec_rubyNumber.f isNum
  refine (specNumber_ev s hs).bind ?_
  cases Num.parse s.toList <;> exact Ev.now _
theorem tw_at {α : Type} (p : α → Bool) (l : List α) (i : Nat) (h : (l.take i).all p = true) (hn : ∀ h : i < l.length, p (l[i]'h) = false) (hi : i ≤ l.length) : l.take i = l.takeWhile p ∧ l.drop i = l.dropWhile p := by
  have e := take_while_at p l i h hn hi
  have a : l.take i = l.takeWhile p := by rw [← e]; exact take_while_take p l
  refine ⟨a, ?_⟩
  have b := List.take_append_drop i l
  have c := List.takeWhile_append_dropWhile (p := p) (l := l)
  rw [a] at b
  exact List.append_cancel_left (b.trans c.symm)
theorem groups_loop (l : List ByteArray) (hl : l.length < 1000) (hs : ∀ s ∈ l, s.size ≤ 40000) (d : Nat) : ∀ i : Nat, i + d = l.length → (l.take i).all isNum = true → Ev (fun k => spec_RubyGroups.l0 k l (i : Int)) (l.takeWhile isNum, l.dropWhile isNum) := by
  induction d with
  | zero =>
    intro i hi ha
    obtain ⟨a, b⟩ := tw_at isNum l i ha (fun h => absurd h (by omega)) (by omega)
    refine Ev.step (fun k => by rw [spec_RubyGroups.l0, Int.toNat_natCast, a, b]) ?_
    refine ev_neg (by omega) (ev_pos (by omega) (ev_pos (by omega) (ev_pos ?_ (ev_pos ?_ (Ev.now _)))))
    · rw [← a]; simp; omega
    · rw [← b]; simp; omega
  | succ d ih =>
    intro i hi ha
    have hlt : i < l.length := by omega
    have r := rdOf_nat ByteArray.empty l i hlt
    have w := wr i (by omega)
    have n := rubyNumber_ev (l[i]'hlt) (hs _ (List.getElem_mem hlt))
    refine Ev.step (fun k => by rw [spec_RubyGroups.l0, r, w]) ?_
    refine ev_pos (by omega) (ev_pos (by omega) (n.bind ?_))
    cases hn : isNum (l[i]'hlt) with
    | true =>
      refine ev_pos rfl (ih (i + 1) (by omega) ?_)
      rw [List.take_succ_eq_append_getElem hlt, List.all_append, ha]
      simp [hn]
    | false =>
      obtain ⟨a, b⟩ := tw_at isNum l i ha (fun _ => hn) (by omega)
      refine ev_neg (by simp) (ev_pos (by omega) ?_)
      rw [Int.toNat_natCast, a, b]
      refine ev_pos ?_ (ev_pos ?_ (Ev.now _))
      · rw [← a]; simp; omega
      · rw [← b]; simp; omega
theorem FnRubyGroups : ∀ (l0 : List ByteArray), l0.length ≤ 9223372036854775807 → (∀ s ∈ l0, s.size ≤ 9223372036854775807) → ∃ k, laws_FnRubyGroups.f k l0 = some true := by
  intro l _ _
  suffices h : Ev (fun k => laws_FnRubyGroups.f k l) true from h.rounds
  unfold laws_FnRubyGroups.f
  obtain ⟨fa, ea, ha⟩ := fits_ev l
  refine ea.bind ?_
  cases fa with
  | false => exact ev_neg (by simp) (Ev.now _)
  | true =>
  have la := ha rfl
  refine ev_pos rfl ((short_ev l (by omega)).bind ?_)
  cases sa : shortB l with
  | false => exact ev_neg (by simp) (Ev.now _)
  | true =>
  have ll := short_len sa
  have ls := short_sizes sa
  have ft : fit l = true := by
    unfold fit
    rw [Bool.and_eq_true, List.all_eq_true]
    exact ⟨decide_eq_true (by omega), fun s hs => decide_eq_true (by have := ls s hs; omega)⟩
  have t1 : (l.takeWhile isNum).length ≤ l.length := List.Sublist.length_le (List.takeWhile_sublist _)
  have t2 : (l.dropWhile isNum).length ≤ l.length := List.Sublist.length_le (List.dropWhile_sublist _)
  have im : impl_RubyGroups.f l = some (l.takeWhile isNum, l.dropWhile isNum) := by
    unfold impl_RubyGroups.f semantic_ZZRubyGroups.f Giv.semantic_groupSegments.f
    rw [List.nil_append, if_pos (by simp; omega), if_pos ft]
    simp only [Option.bind_some, List.nil_append]
    rw [if_pos (by simp; omega), if_pos (by simp; omega)]
  have sp : Ev (fun k => spec_RubyGroups.f k l) (l.takeWhile isNum, l.dropWhile isNum) := groups_loop l (by omega) (fun s hs => by have := ls s hs; omega) _ 0 (Nat.zero_add _) rfl
  rw [im]
  refine ev_pos rfl (ev_some (sp.bind ?_))
  refine (texts_ev _ _ (by dsimp only; omega)).bind ?_
  rw [decide_eq_true rfl]
  refine ev_pos rfl ((texts_ev _ _ (by dsimp only; omega)).bind ?_)
  rw [decide_eq_true rfl]
  refine ev_pos rfl (ev_pos (by simp; omega) (ev_some (ev_pos (by simp; omega) ?_)))
  rw [List.nil_append, List.takeWhile_append_dropWhile]
  refine (texts_ev _ _ (by omega)).bind ?_
  rw [decide_eq_true rfl]
  exact Ev.now _
end Go.Proofs.YtfgechefinijbaaDoor.Pure
