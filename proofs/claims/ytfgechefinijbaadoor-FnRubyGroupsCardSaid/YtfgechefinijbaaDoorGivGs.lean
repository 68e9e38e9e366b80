/- Contract by hand: segments cut ahead of the first one that is no number. -/
import Derived.Test.YtfgechefinijbaaDoorZE
namespace Go.Proofs.YtfgechefinijbaaDoor.Giv
open Go.RowKit Go.Proofs.YtfgechefinijbaaDoorW.PrintWords Go.Proofs.YtfgechefinijbaaDoorW.PrintLast Go.Proofs.YtfgechefinijbaaDoor.Pk Go.Proofs.YtfgechefinijbaaDoor.Ord
set_option linter.unusedVariables false
set_option linter.unusedSimpArgs false

def isNum (s : ByteArray) : Bool := (Num.parse s.toList).isSome
theorem infoStr : (Tryd.prog.info? 9).map (fun i => (i.zero, i.size, i.bytes)) = some (some (.string ⟨#[]⟩), 1, 16) := by kernel_rfl
theorem own_fresh {W : World} {base : Nat} {v : Value} {xs : List ByteArray} {ok : Nat → Prop} (h : Kd.R Kd.string 9 W base ok v xs) : ∀ k, W.heap.size ≤ k → some k ≠ v.ownBlock := by
  intro k hk e
  obtain ⟨inner, ho⟩ := Kd.R_own h
  have := own_lt ho k e.symm
  omega
theorem pair_step {W w1 : World} {base : Nat} {v2 v3 v3' : Value} {xs : List ByteArray} (h : Kd.R Kd.string 9 W base (fun k => some k ≠ v3.ownBlock) v2 xs) (hg : W.grownBy w1 v3.ownBlock) (hat : v3'.ownBlock = v3.ownBlock ∨ ∃ b, v3'.ownBlock = some b ∧ W.heap.size ≤ b) :
    Kd.R Kd.string 9 w1 base (fun k => some k ≠ v3'.ownBlock) v2 xs := by
  refine Kd.R_mono (Kd.R_grown (Kd.R_bound h) hg (fun k hk => hk.1)) ?_
  rintro k ⟨h1, h2, h3, _⟩
  rcases hat with e | ⟨b, e, hb⟩
  · rw [e]; exact h1
  · rw [e]
    intro he
    have := Option.some.inj he
    omega
theorem tw_snoc {α : Type} (p : α → Bool) : ∀ (l : List α) (x : α), ((l ++ [x]).takeWhile p = if (l.dropWhile p) = [] ∧ p x = true then l.takeWhile p ++ [x] else l.takeWhile p) ∧ ((l ++ [x]).dropWhile p = if (l.dropWhile p) = [] ∧ p x = true then [] else l.dropWhile p ++ [x])
  | [], x => by
    by_cases h : p x = true
    · simp [h]
    · simp [h]
  | y :: l, x => by
    obtain ⟨a, b⟩ := tw_snoc p l x
    by_cases h : p y = true
    · simp only [List.cons_append, List.takeWhile_cons_of_pos h, List.dropWhile_cons_of_pos h, a, b]
      refine ⟨?_, trivial⟩
      split <;> simp
    · simp only [List.cons_append, List.takeWhile_cons_of_neg h, List.dropWhile_cons_of_neg h]
      simp
set_option maxRecDepth 100000 in
set_option maxHeartbeats 4000000 in
theorem group_calls (l : List ByteArray) (A0 : Option Addr) (c0 : Nat) (w : World) (hr0 : Kd.C Kd.string w A0 l.length l) (hc0 : l.length ≤ c0) (ha : fit l = true) (hL : Laid w) :
    Calls Tryd.prog 68 #[.slice A0 l.length c0] w fun e w' => ∃ v0_ v1_ : Value, e = .returned (.tuple #[v0_, v1_]) ∧ Kd.R Kd.string 9 w' w.heap.size (fun k_ => some k_ ≠ (v1_ : Value).ownBlock) v0_ (l.takeWhile isNum) ∧ Kd.R Kd.string 9 w' w.heap.size (fun k_ => some k_ ≠ (v0_ : Value).ownBlock) v1_ (l.dropWhile isNum) ∧ Below w.heap.size w w' := by
  have HR0 := Aside0.mk hr0
  have HL := Aside0.mk hL
  have la := fit_len ha
  clear hr0 hL
  go_enter Tryd.func68, Tryd.ntmps68
  go_wp2_with fail
  go_loopw [2, 3, 10] (fun v2 v3 v10 wr => ∃ k : Nat, v10 = .int .i64 k ∧ k ≤ l.length ∧ Below w.heap.size w wr ∧ Kd.R Kd.string 9 wr w.heap.size (fun q => some q ≠ v3.ownBlock) v2 ((l.take k).takeWhile isNum) ∧ Kd.R Kd.string 9 wr w.heap.size (fun q => some q ≠ v2.ownBlock) v3 ((l.take k).dropWhile isNum)) (fun v2 v3 v10 wr => l.length - (intOf v10).toNat)
  case atStart => exact ⟨0, rfl, Nat.zero_le _, Below.refl _ _, Kd.R_nil _ _ _ _ _, Kd.R_nil _ _ _ _ _⟩
  case round =>
    obtain ⟨k, rfl, hk, hbw, hn, hb⟩ := hrel
    have BL := Aside0.mk hbw
    have BS := Aside0.mk hbw.size
    by_cases hlt : k < l.length
    · obtain ⟨ad, rfl, cl0⟩ := Kd.at_string HR0.out (k : Int) (by omega) (by omega)
      have hxs := fit_get ha k hlt
      rw [rdOf_nat _ _ k hlt, Int.toNat_natCast] at cl0
      have tk := List.take_succ_eq_append_getElem hlt
      obtain ⟨x, ex⟩ : ∃ x, x = l[k]'hlt := ⟨_, rfl⟩
      rw [← ex] at hxs cl0 tk
      have cellx := pw_cell_below hbw cl0
      obtain ⟨s1, s2⟩ := tw_snoc isNum (l.take k) x
      rw [← tk] at s1 s2
      obtain ⟨bld, eb⟩ : ∃ b, b = (l.take k).dropWhile isNum := ⟨_, rfl⟩
      obtain ⟨nums, en⟩ : ∃ b, b = (l.take k).takeWhile isNum := ⟨_, rfl⟩
      have ln : nums.length + 1 ≤ 100001 := by
        have := List.Sublist.length_le (List.takeWhile_sublist isNum (l := l.take k))
        rw [en]
        rw [List.length_take] at this
        omega
      have lb : bld.length + 1 ≤ 100001 := by
        have := List.Sublist.length_le (List.dropWhile_sublist isNum (l := l.take k))
        rw [eb]
        rw [List.length_take] at this
        omega
      rw [← eb] at hb s1 s2
      rw [← en] at hn s1
      obtain ⟨A3, c3, rfl⟩ := Kd.R_slice hb
      have wk : wrap64 ((k : Int) + 1) = ((k + 1 : Nat) : Int) := Pk.wr k (by omega)
      have f4 : (k : Int) < (l.length : Int) := Int.ofNat_lt.2 hlt
      have kn : k + 1 ≤ l.length := hlt
      have HB := Aside0.mk hb
      have HN := Aside0.mk hn
      by_cases hz : bld = []
      · subst hz
        have hb0 : Kd.R Kd.string 9 wr w.heap.size (fun q => some q ≠ u2.ownBlock) (.slice A3 0 c3) [] := hb
        have HB := Aside0.mk hb0
        have HN := Aside0.mk (show Kd.R Kd.string 9 wr w.heap.size (fun q => some q ≠ (Value.slice A3 0 c3).ownBlock) u2 nums from hn)
        have e00 : (([] : List ByteArray).length) = 0 := rfl
        simp only [e00]
        have lim := Aside0.mk (show (nums.length + 1) * 16 ≤ 140737488355328 by omega)
        cases hp : Num.parse x.toList with
        | some p =>
          have cx := fun (w' : World) (hb' : Below w.heap.size w w') => conv_some x w' p hxs (HL.out.below hb') hp
          have nx : isNum x = true := by unfold isNum; rw [hp]; rfl
          rw [if_pos ⟨rfl, nx⟩] at s1 s2
          have S1 := Aside0.mk s1
          have S2 := Aside0.mk s2
          clear s1 s2 tk ex eb en hn hb hb0 hbw hp nx ha la ln lb hlt cl0 e00
          go_wp2_with (first | (go_at_call 66; (with_reducible refine (cx _ BL.out).mono ?_); rintro e w1 ⟨bx, rfl, q1, d1⟩; have BL1 := Aside0.mk (below_then BL.out BS.out d1); have BS1 := Aside0.mk (Nat.le_trans BS.out d1.size); have HN1 := Aside0.mk (Kd.R_below HN.out d1); have HB1 := Aside0.mk (Kd.R_below HB.out d1); clear d1 q1) | ((with_reducible refine gate_builtin (b := .append) (xs := #[.tmp 30, .tmp 32]) rfl ?_); at_builtin; refine Kd.R_append Kd.string (w0 := w) w.heap.size rfl (.tmp 30) (.tmp 32) 28 9 (.string ⟨#[]⟩) 16 rfl Tryd.underlying28 infoStr rfl (by decide) (by omega) u2 nums x [.string x] (fun q => some q ≠ ((.slice A3 0 c3 : Value) : Value).ownBlock) (fun _ => False) rfl rfl ?aP (fun _ hk => hk.elim) ?aF ?aO ?aB ?aS ?aL ?_; (case aP => exact rfl); (case aF => exact own_fresh HB1.out); (case aO => exact HN1.out); (case aB => exact BL1.out); (case aS => exact BS1.out); (case aL => exact lim.out); intro v5 w5 ho hb hg hat; have HO := Aside0.mk ho; have HP := Aside0.mk (pair_step HB1.out hg hat); have BL2 := Aside0.mk hb; clear ho hb hg hat))
          rw [wk]
          refine ⟨⟨k + 1, rfl, kn, BL2.out, ?_, ?_⟩, by simp only [intOf]; omega⟩
          · rw [S1.out]
            exact HO.out
          · rw [S2.out]
            exact HP.out
        | none =>
          have cx := fun (w' : World) (hb' : Below w.heap.size w w') => conv_none x w' hxs (HL.out.below hb') hp
          have nx : isNum x = false := by unfold isNum; rw [hp]; rfl
          rw [if_neg (fun h => by rw [nx] at h; exact absurd h.2 (by simp))] at s1 s2
          have S1 := Aside0.mk s1
          have S2 := Aside0.mk s2
          have lim := Aside0.mk (show (([] : List ByteArray).length + 1) * 16 ≤ 140737488355328 by decide)
          clear s1 s2 tk ex eb en hn hb hb0 hbw hp nx ha la ln lb hlt cl0 e00
          go_wp2_with (first | (go_at_call 66; (with_reducible refine (cx _ BL.out).mono ?_); rintro e w1 ⟨er, rfl, d1⟩; have BL1 := Aside0.mk (below_then BL.out BS.out d1); have BS1 := Aside0.mk (Nat.le_trans BS.out d1.size); have HN1 := Aside0.mk (Kd.R_below HN.out d1); have HB1 := Aside0.mk (Kd.R_below HB.out d1); clear d1) | ((with_reducible refine gate_builtin (b := .append) (xs := #[.tmp 26, .tmp 28]) rfl ?_); at_builtin; refine Kd.R_append Kd.string (w0 := w) w.heap.size rfl (.tmp 26) (.tmp 28) 28 9 (.string ⟨#[]⟩) 16 rfl Tryd.underlying28 infoStr rfl (by decide) (by omega) (.slice A3 0 c3) ([] : List ByteArray) x [.string x] (fun q => some q ≠ (u2 : Value).ownBlock) (fun _ => False) rfl rfl ?aP (fun _ hk => hk.elim) ?aF ?aO ?aB ?aS ?aL ?_; (case aP => exact rfl); (case aF => exact own_fresh HN1.out); (case aO => exact HB1.out); (case aB => exact BL1.out); (case aS => exact BS1.out); (case aL => exact lim.out); intro v5 w5 ho hb hg hat; have HO := Aside0.mk ho; have HP := Aside0.mk (pair_step HN1.out hg hat); have BL2 := Aside0.mk hb; clear ho hb hg hat))
          rw [wk]
          refine ⟨⟨k + 1, rfl, kn, BL2.out, ?_, ?_⟩, by simp only [intOf]; omega⟩
          · rw [S1.out]
            exact HP.out
          · rw [S2.out]
            exact HO.out
      · rw [if_neg (fun h => hz h.1)] at s1 s2
        have lim := Aside0.mk (show (bld.length + 1) * 16 ≤ 140737488355328 by omega)
        have lp : 0 < bld.length := List.length_pos_iff.2 hz
        obtain ⟨m, em⟩ : ∃ m, m = bld.length := ⟨_, rfl⟩
        rw [← em] at hb hn HB HN lp ⊢
        have g1 : decide ((m : Int) > 0) = true := decide_eq_true (by omega)
        have g2 : decide (0 < (m : Int)) = true := decide_eq_true (by omega)
        have g3 : decide (0 < m) = true := decide_eq_true lp
        have S1 := Aside0.mk s1
        have S2 := Aside0.mk s2
        cases hp : Num.parse x.toList with
        | some p =>
          have cx := fun (w' : World) (hb' : Below w.heap.size w w') => conv_some x w' p hxs (HL.out.below hb') hp
          clear s1 s2 tk ex eb en hn hb hbw hp ha la ln lb hlt cl0 em hz
          go_wp2_with (first | (go_at_call 66; (with_reducible refine (cx _ BL.out).mono ?_); rintro e w1 ⟨bx, rfl, q1, d1⟩; have BL1 := Aside0.mk (below_then BL.out BS.out d1); have BS1 := Aside0.mk (Nat.le_trans BS.out d1.size); have HN1 := Aside0.mk (Kd.R_below HN.out d1); have HB1 := Aside0.mk (Kd.R_below HB.out d1); clear d1 q1) | ((with_reducible refine gate_builtin (b := .append) (xs := #[.tmp 26, .tmp 28]) rfl ?_); at_builtin; refine Kd.R_append Kd.string (w0 := w) w.heap.size rfl (.tmp 26) (.tmp 28) 28 9 (.string ⟨#[]⟩) 16 rfl Tryd.underlying28 infoStr rfl (by decide) (by omega) (.slice A3 m c3) bld x [.string x] (fun q => some q ≠ (u2 : Value).ownBlock) (fun _ => False) rfl rfl ?aP (fun _ hk => hk.elim) ?aF ?aO ?aB ?aS ?aL ?_; (case aP => exact rfl); (case aF => exact own_fresh HN1.out); (case aO => exact HB1.out); (case aB => exact BL1.out); (case aS => exact BS1.out); (case aL => exact lim.out); intro v5 w5 ho hb hg hat; have HO := Aside0.mk ho; have HP := Aside0.mk (pair_step HN1.out hg hat); have BL2 := Aside0.mk hb; clear ho hb hg hat))
          rw [wk]
          refine ⟨⟨k + 1, rfl, kn, BL2.out, ?_, ?_⟩, by simp only [intOf]; omega⟩
          · rw [S1.out]
            exact HP.out
          · rw [S2.out]
            exact HO.out
        | none =>
          have cx := fun (w' : World) (hb' : Below w.heap.size w w') => conv_none x w' hxs (HL.out.below hb') hp
          clear s1 s2 tk ex eb en hn hb hbw hp ha la ln lb hlt cl0 em hz
          go_wp2_with (first | (go_at_call 66; (with_reducible refine (cx _ BL.out).mono ?_); rintro e w1 ⟨er, rfl, d1⟩; have BL1 := Aside0.mk (below_then BL.out BS.out d1); have BS1 := Aside0.mk (Nat.le_trans BS.out d1.size); have HN1 := Aside0.mk (Kd.R_below HN.out d1); have HB1 := Aside0.mk (Kd.R_below HB.out d1); clear d1) | ((with_reducible refine gate_builtin (b := .append) (xs := #[.tmp 26, .tmp 28]) rfl ?_); at_builtin; refine Kd.R_append Kd.string (w0 := w) w.heap.size rfl (.tmp 26) (.tmp 28) 28 9 (.string ⟨#[]⟩) 16 rfl Tryd.underlying28 infoStr rfl (by decide) (by omega) (.slice A3 m c3) bld x [.string x] (fun q => some q ≠ (u2 : Value).ownBlock) (fun _ => False) rfl rfl ?aP (fun _ hk => hk.elim) ?aF ?aO ?aB ?aS ?aL ?_; (case aP => exact rfl); (case aF => exact own_fresh HN1.out); (case aO => exact HB1.out); (case aB => exact BL1.out); (case aS => exact BS1.out); (case aL => exact lim.out); intro v5 w5 ho hb hg hat; have HO := Aside0.mk ho; have HP := Aside0.mk (pair_step HN1.out hg hat); have BL2 := Aside0.mk hb; clear ho hb hg hat))
          rw [wk]
          refine ⟨⟨k + 1, rfl, kn, BL2.out, ?_, ?_⟩, by simp only [intOf]; omega⟩
          · rw [S1.out]
            exact HP.out
          · rw [S2.out]
            exact HO.out
    · have e : k = l.length := by omega
      subst e
      rw [List.take_length] at hn hb
      have f4 : ¬ (l.length : Int) < (l.length : Int) := by omega
      have HN := Aside0.mk hn
      have HB := Aside0.mk hb
      clear hn hb hbw
      go_wp2_with fail
      exact bodyPost_ret (results_list (rs := [.tmp 2, .tmp 3]) rfl (by simp) (.tmp (.tmp .nil))) rfl ⟨_, _, rfl, HN.out, HB.out, BL.out⟩
def semantic_groupSegments.f (l0 : List ByteArray) : Option (List ByteArray × List ByteArray) := if fit l0 = true then some (l0.takeWhile isNum, l0.dropWhile isNum) else none
theorem semantic_groupSegments.calls (A0 : Option Addr) (c0 : Nat) (l0 : List ByteArray) (r1 : List ByteArray) (r2 : List ByteArray) (w : World) (hr0 : Kd.C Kd.string w A0 l0.length l0) (hc0 : l0.length ≤ c0) (h : semantic_groupSegments.f l0 = some (r1, r2)) (hL : Laid w) :
    Calls Tryd.prog 68 #[.slice A0 l0.length c0] w fun e w' => ∃ v0_ v1_ : Value, e = .returned (.tuple #[v0_, v1_]) ∧ Kd.R Kd.string 9 w' w.heap.size (fun k_ => some k_ ≠ (v1_ : Value).ownBlock) v0_ r1 ∧ Kd.R Kd.string 9 w' w.heap.size (fun k_ => some k_ ≠ (v0_ : Value).ownBlock) v1_ r2 ∧ Below w.heap.size w w' := by
  unfold semantic_groupSegments.f at h
  split at h
  · next hc =>
    obtain ⟨rfl, rfl⟩ := Prod.mk.inj (Option.some.inj h)
    exact group_calls l0 A0 c0 w hr0 hc0 hc hL
  · exact absurd h (by simp)
end Go.Proofs.YtfgechefinijbaaDoor.Giv
