/- Contract by hand: a text cut at points and hyphens (the function is handed in). -/
import Derived.Test.YtchbfjjeodnocaaDoorZK
namespace Go.Proofs.YtchbfjjeodnocaaDoor.Giv
open Go.RowKit Go.Proofs.YtchbfjjeodnocaaDoorW.PrintWords Go.Proofs.YtchbfjjeodnocaaDoorW.PrintLast Go.Proofs.YtchbfjjeodnocaaDoor.Pk Go.Proofs.YtchbfjjeodnocaaDoor.Ord
set_option linter.unusedVariables false
set_option linter.unusedSimpArgs false

/-- A hyphen turned into a point. -/
def hy (x : UInt8) : UInt8 := if x = 45 then 46 else x
theorem hy_no : ∀ (l : List UInt8), ((l.map hy).any (fun x => x == 46)) = false → l.map hy = l
  | [], _ => rfl
  | x :: l, h => by
    rw [List.map_cons, List.any_cons, Bool.or_eq_false_iff] at h
    rw [List.map_cons, hy_no l h.2]
    have : hy x = x := by
      unfold hy at h ⊢
      split
      · next e => rw [if_pos e] at h; exact absurd h.1 (by decide)
      · rfl
    rw [this]
theorem hy_piece (l : List UInt8) (f m : Nat) (h : (((l.map hy).drop f).take m).any (fun x => x == 46) = false) : (l.drop f).take m = ((l.map hy).drop f).take m := by
  rw [← List.map_drop, ← List.map_take] at h ⊢
  exact (hy_no _ h).symm
theorem cranMark_calls (x : Int) (w : World) : Calls Tryd.prog 117 #[.int .u8 x] w fun e w' => e = .returned (.bool (x == 46 || x == 45)) ∧ w' = w := by
  go_enter Tryd.func117, Tryd.ntmps117
  by_cases h : x = 46
  · subst h
    go_wp2
    go_ret
    exact ⟨rfl, rfl⟩
  · have h' : (x == 46) = false := beq_eq_false_iff_ne.2 h
    go_wp2
    go_ret
    exact ⟨by simp [h'], rfl⟩
set_option maxRecDepth 100000 in
set_option maxHeartbeats 4000000 in
theorem cran_cut_calls (s : ByteArray) (hs : s.size ≤ 40000) (w : World) :
    Calls Tryd.prog 98 #[.string s, .func (.func 117) #[] #[]] w fun e w' => ∃ v0_ : Value, e = .returned v0_ ∧ Kd.R Kd.string 9 w' w.heap.size (fun _ => True) v0_ ((Cut.cutAt 46 (s.toList.map hy)).map bs) ∧ Below w.heap.size w w' := by
  obtain ⟨full, ef⟩ : ∃ x, x = (Cut.cutAt 46 (s.toList.map hy)).map bs := ⟨_, rfl⟩
  have lf : full.length ≤ 40001 := by
    rw [ef, List.length_map]
    have := (Cut.cutAt_sizes 46 (s.toList.map hy)).1
    rw [List.length_map, len_toList] at this
    omega
  rw [← ef]
  go_enter Tryd.func98, Tryd.ntmps98
  go_wp2_with fail
  go_loopw [5, 6, 7] (fun v5 v6 v7 wr => ∃ (f k : Nat) (out : List ByteArray), v6 = .int .i64 f ∧ v7 = .int .i64 k ∧ f ≤ k ∧ Below w.heap.size w wr ∧ Kd.R Kd.string 9 wr w.heap.size (fun _ => True) v5 out ∧ ((k ≤ s.size ∧ out ++ (Cut.cutAt 46 ((s.toList.map hy).drop f)).map bs = full ∧ (((s.toList.map hy).drop f).take (k - f)).any (fun x => x == 46) = false) ∨ (k = s.size + 1 ∧ out = full))) (fun v5 v6 v7 wr => s.size + 1 - (intOf v7).toNat)
  case atStart => exact ⟨0, 0, [], rfl, rfl, Nat.le_refl _, Below.refl _ _, Kd.R_nil _ _ _ _ _, Or.inl ⟨Nat.zero_le _, by rw [List.drop_zero, List.nil_append, ef], by simp⟩⟩
  case round =>
    obtain ⟨f, k, out, rfl, rfl, hfk, hbw, ho, hq⟩ := hrel
    have BL := Aside0.mk hbw
    have BS := Aside0.mk hbw.size
    have HO := Aside0.mk ho
    rcases hq with ⟨hk, hout, hno⟩ | ⟨rfl, hout⟩
    · have lo : out.length + 1 ≤ full.length := by
        rw [← hout, List.length_append, List.length_map]
        have := List.length_pos_iff.2 (Cut.cutAt_ne 46 ((s.toList.map hy).drop f))
        omega
      have lim := Aside0.mk (show (out.length + 1) * 16 ≤ 140737488355328 by omega)
      have f4 : (k : Int) ≤ (s.size : Int) := Int.ofNat_le.2 hk
      have f5 : (f : Int) ≤ (k : Int) := Int.ofNat_le.2 hfk
      have f6 : f ≤ k := hfk
      have f7 : k ≤ s.size := hk
      have wk : wrap64 ((k : Int) + 1) = ((k + 1 : Nat) : Int) := Pk.wr k (by omega)
      by_cases he : k = s.size
      · have g1 : ((k : Int) == (s.size : Int)) = true := beq_iff_eq.2 (by rw [he])
        have pc := cut_piece s f k _ (by rw [hy_piece _ _ _ hno, he, List.take_of_length_le (by rw [List.length_drop, List.length_map, len_toList]; omega)])
        have cn := (Cut.cutAt_no 46 ((s.toList.map hy).drop f) (by
          rw [he, List.take_of_length_le (by rw [List.length_drop, List.length_map, len_toList]; omega)] at hno
          exact hno)).1
        rw [cn] at hout
        have Q := Aside0.mk (show out ++ [s.extract f k] = full by rw [pc]; exact hout)
        clear ho hbw hout hno cn pc lo
        have RF := Aside0.mk he
        clear he
        go_wp2_with (first | ((with_reducible refine gate_builtin (b := .append) (xs := #[.tmp 25, .tmp 30]) rfl ?_); at_builtin; refine Kd.R_append Kd.string (w0 := w) w.heap.size rfl (.tmp 25) (.tmp 30) 39 9 (.string ⟨#[]⟩) 16 rfl Tryd.underlying39 cut_infoStr rfl (by decide) (by omega) u5 out (s.extract f k) [.string (s.extract f k)] (fun _ => True) (fun _ => False) rfl rfl ?aP (fun _ hk => hk.elim) ?aF ?aO ?aB ?aS ?aL ?_; (case aP => exact rfl); (case aF => exact (fun _ _ => trivial)); (case aO => exact HO.out); (case aB => exact BL.out); (case aS => exact BS.out); (case aL => exact lim.out); intro v5 w5 ho hb hg hat; have HO := Aside0.mk ho; have BL2 := Aside0.mk hb; clear ho hb hg hat))
        refine ⟨⟨k + 1, k + 1, _, rfl, rfl, Nat.le_refl _, BL2.out, HO.out, Or.inr ⟨by rw [RF.out], Q.out⟩⟩, by simp only [intOf]; omega⟩
      · have hlt : k < s.size := by omega
        have g1 : ((k : Int) == (s.size : Int)) = false := beq_eq_false_iff_ne.2 (by omega)
        have h2 : (k : Int) < (s.size : Int) := Int.ofNat_lt.2 hlt
        have b := bt_nat s k hlt
        by_cases hc : s[k]'hlt = 46
        · have hc' : (s.toList.map hy)[k]? = some 46 := by rw [List.getElem?_map, List.getElem?_eq_getElem (by rw [len_toList]; exact hlt), getElem_toList s k hlt, hc]; rfl
          have pc := cut_piece s f k _ (hy_piece _ _ _ hno)
          have ca := cut_at 46 (s.toList.map hy) f k hfk hc' hno
          rw [ca, List.map_cons, ← pc] at hout
          have Q := Aside0.mk (show (out ++ [s.extract f k]) ++ (Cut.cutAt 46 ((s.toList.map hy).drop (k + 1))).map bs = full by rw [List.append_assoc]; exact hout)
          have ct : ∀ w', Calls Tryd.prog 117 #[.int .u8 46] w' fun e w'' => e = .returned (.bool true) ∧ w'' = w' := fun w' => cranMark_calls 46 w'
          clear ho hbw hout hno ca pc lo hc' b he
          go_wp2_with (first | (go_at_call 117; (with_reducible refine (ct _).mono ?_); rintro e w1 ⟨rfl, rfl⟩) | ((with_reducible refine gate_builtin (b := .append) (xs := #[.tmp 25, .tmp 30]) rfl ?_); at_builtin; refine Kd.R_append Kd.string (w0 := w) w.heap.size rfl (.tmp 25) (.tmp 30) 39 9 (.string ⟨#[]⟩) 16 rfl Tryd.underlying39 cut_infoStr rfl (by decide) (by omega) u5 out (s.extract f k) [.string (s.extract f k)] (fun _ => True) (fun _ => False) rfl rfl ?aP (fun _ hk => hk.elim) ?aF ?aO ?aB ?aS ?aL ?_; (case aP => exact rfl); (case aF => exact (fun _ _ => trivial)); (case aO => exact HO.out); (case aB => exact BL.out); (case aS => exact BS.out); (case aL => exact lim.out); intro v5 w5 ho hb hg hat; have HO := Aside0.mk ho; have BL2 := Aside0.mk hb; clear ho hb hg hat))
          refine ⟨⟨k + 1, k + 1, _, rfl, rfl, Nat.le_refl _, BL2.out, HO.out, Or.inl ⟨hlt, Q.out, by simp⟩⟩, by simp only [intOf]; omega⟩
        · by_cases hd : s[k]'hlt = 45
          · have hc' : (s.toList.map hy)[k]? = some 46 := by rw [List.getElem?_map, List.getElem?_eq_getElem (by rw [len_toList]; exact hlt), getElem_toList s k hlt, hd]; rfl
            have pc := cut_piece s f k _ (hy_piece _ _ _ hno)
            have ca := cut_at 46 (s.toList.map hy) f k hfk hc' hno
            rw [ca, List.map_cons, ← pc] at hout
            have Q := Aside0.mk (show (out ++ [s.extract f k]) ++ (Cut.cutAt 46 ((s.toList.map hy).drop (k + 1))).map bs = full by rw [List.append_assoc]; exact hout)
            have ct : ∀ w', Calls Tryd.prog 117 #[.int .u8 45] w' fun e w'' => e = .returned (.bool true) ∧ w'' = w' := fun w' => cranMark_calls 45 w'
            clear ho hbw hout hno ca pc lo hc' b he hc
            go_wp2_with (first | (go_at_call 117; (with_reducible refine (ct _).mono ?_); rintro e w1 ⟨rfl, rfl⟩) | ((with_reducible refine gate_builtin (b := .append) (xs := #[.tmp 25, .tmp 30]) rfl ?_); at_builtin; refine Kd.R_append Kd.string (w0 := w) w.heap.size rfl (.tmp 25) (.tmp 30) 39 9 (.string ⟨#[]⟩) 16 rfl Tryd.underlying39 cut_infoStr rfl (by decide) (by omega) u5 out (s.extract f k) [.string (s.extract f k)] (fun _ => True) (fun _ => False) rfl rfl ?aP (fun _ hk => hk.elim) ?aF ?aO ?aB ?aS ?aL ?_; (case aP => exact rfl); (case aF => exact (fun _ _ => trivial)); (case aO => exact HO.out); (case aB => exact BL.out); (case aS => exact BS.out); (case aL => exact lim.out); intro v5 w5 ho hb hg hat; have HO := Aside0.mk ho; have BL2 := Aside0.mk hb; clear ho hb hg hat))
            refine ⟨⟨k + 1, k + 1, _, rfl, rfl, Nat.le_refl _, BL2.out, HO.out, Or.inl ⟨hlt, Q.out, by simp⟩⟩, by simp only [intOf]; omega⟩
          · have hx : (hy (s[k]'hlt) == (46 : UInt8)) = false := by
              unfold hy; rw [if_neg hd]; exact beq_eq_false_iff_ne.2 hc
            have N := Aside0.mk (any_next 46 _ (s.toList.map hy) f k hfk (by rw [List.getElem?_map, List.getElem?_eq_getElem (by rw [len_toList]; exact hlt), getElem_toList s k hlt]; rfl) hno hx)
            have Q := Aside0.mk hout
            have bn : (((s[k]'hlt).toNat : Int) == 46) = false := by
              refine beq_eq_false_iff_ne.2 (fun h => hc (UInt8.toNat_inj.1 ?_))
              have : (s[k]'hlt).toNat = 46 := by omega
              exact this
            have bd : (((s[k]'hlt).toNat : Int) == 45) = false := by
              refine beq_eq_false_iff_ne.2 (fun h => hd (UInt8.toNat_inj.1 ?_))
              have : (s[k]'hlt).toNat = 45 := by omega
              exact this
            have ct : ∀ w', Calls Tryd.prog 117 #[.int .u8 (((s[k]'hlt).toNat : Nat) : Int)] w' fun e w'' => e = .returned (.bool false) ∧ w'' = w' := fun w' => (cranMark_calls (((s[k]'hlt).toNat : Nat) : Int) w').mono (by rintro e w2 ⟨rfl, rfl⟩; rw [bn, bd]; exact ⟨rfl, rfl⟩)
            clear ho hbw hout hno lo bn bd hx b he
            go_wp2_with (first | (go_at_call 117; (with_reducible refine (ct _).mono ?_); rintro e w1 ⟨rfl, rfl⟩))
            refine ⟨⟨f, k + 1, _, rfl, rfl, Nat.le_succ_of_le hfk, BL.out, HO.out, Or.inl ⟨hlt, Q.out, N.out⟩⟩, by simp only [intOf]; omega⟩
    · have f4 : ¬ ((s.size + 1 : Nat) : Int) ≤ (s.size : Int) := by omega
      rw [hout, ef] at ho
      have HO := Aside0.mk ho
      clear ho hbw
      go_wp2_with fail
      go_ret
      exact ⟨_, rfl, HO.out, BL.out⟩
def spec_cut_cranMark.f (a0 : ByteArray) : Option (List ByteArray) := if a0.size ≤ 40000 then some ((Cut.cutAt 46 (a0.toList.map hy)).map bs) else none
theorem spec_cut_cranMark.calls (a0 : ByteArray) (r : List ByteArray) (w : World) (h : spec_cut_cranMark.f a0 = some r) :
    Calls Tryd.prog 98 #[.string a0, .func (.func 117) #[] #[]] w fun e w' => ∃ v0_ : Value, e = .returned (v0_) ∧ Kd.R Kd.string 9 w' w.heap.size (fun _ => True) v0_ r ∧ Below w.heap.size w w' := by
  unfold spec_cut_cranMark.f at h
  split at h
  · next hc =>
    obtain rfl := Option.some.inj h
    exact cran_cut_calls a0 hc w
  · exact absurd h (by simp)
end Go.Proofs.YtchbfjjeodnocaaDoor.Giv
