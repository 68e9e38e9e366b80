/- Contract by hand: splitDebianDigitPrefix, where the text's bytes are below 128. -/
import Derived.Test.YtchnlfkdgajodaaDoorZC
import Derived.Test.YtchnlfkdgajodaaDoorGivI
import Derived.Test.YtchnlfkdgajodaaDoorDeb
import Derived.Test.YtchnlfkdgajodaaDoorWMore
namespace Go.Proofs.YtchnlfkdgajodaaDoor.Giv
open Go.RowKit Go.Proofs.YtchnlfkdgajodaaDoorW.PrintWords Go.Proofs.YtchnlfkdgajodaaDoorW.PrintLast Go.Proofs.YtchnlfkdgajodaaDoor.Pk Go.Proofs.YtchnlfkdgajodaaDoor.Ord Go.Proofs.YtchnlfkdgajodaaDoor.QM
set_option linter.unusedVariables false
set_option linter.unusedSimpArgs false

theorem wd0 : ws (wd 0) = [] := by
  unfold wd
  rw [show (0 : Int).natAbs = 0 from rfl, Dg.dg_zero]
  rfl
theorem isBig0 (w : World) : IsBig (w.alloc (.cells #[.bool false, .slice none 0 0] 56)) w.heap.size 0 := by
  unfold IsBig
  rw [wd0]
  exact ⟨none, 0, blk_new _ _, Nat.le_refl _, Nat.zero_le _, Kd.C_nil _ _, fun a e => by cases e⟩
set_option maxHeartbeats 1000000 in
theorem newInt0_calls (w : World) : Calls Tryd.prog 33 #[.int .i64 0] w fun e w' => ∃ b, e = .returned (.pointer (some ⟨b, 0, none⟩)) ∧ IsBig w' b 0 ∧ Below w.heap.size w w' := by
  go_enter Tryd.func33, Tryd.ntmps33
  go_wp2_with fail
  go_ret
  exact ⟨_, rfl, isBig0 _, below_alloc (Below.refl _ _) _⟩
/-- No digit. -/
def noDig (c : UInt8) : Bool := !Rpm.dig c
def noDigI (n : Int) : Bool := decide (n < 48 ∨ 57 < n)
theorem noDigI_b (c : UInt8) : noDigI (c.toNat : Int) = noDig c := by
  unfold noDigI noDig Rpm.dig
  rw [Bool.eq_iff_iff]
  simp
  omega
theorem debLit_calls (n : Int) (w : World) : Calls Tryd.prog 32 #[.int .i32 n] w fun e w' => e = .returned (.bool (noDigI n)) ∧ w' = w := by
  by_cases h1 : n < (48 : Int)
  · have e : noDigI n = true := by unfold noDigI; simp [h1]
    rw [e]
    clear e
    go_enter Tryd.func32, Tryd.ntmps32
    go_wp2
    go_ret
    exact ⟨rfl, rfl⟩
  · by_cases h2 : (57 : Int) < n
    · have e : noDigI n = true := by unfold noDigI; simp [h2]
      rw [e]
      clear e
      go_enter Tryd.func32, Tryd.ntmps32
      go_wp2
      go_ret
      exact ⟨by simp [h2], rfl⟩
    · have e : noDigI n = false := by unfold noDigI; simp; omega
      rw [e]
      clear e
      go_enter Tryd.func32, Tryd.ntmps32
      go_wp2
      go_ret
      exact ⟨by simp [h2], rfl⟩
set_option maxHeartbeats 2000000 in
set_option maxRecDepth 100000 in
theorem indexFn_calls (s : ByteArray) (w : World) (hs : asc s) (hz : s.size ≤ 140737488351232) :
    Calls Tryd.prog 36 #[.string s, .func (.func 32) #[] #[], .bool true] w fun e w' => e = .returned (.int .i64 (placeOf noDig s.toList)) ∧ Below w.heap.size w w' := by
  go_enter Tryd.func36, Tryd.ntmps36
  go_wp2_with fail
  go_loopw [] (fun wr => ∃ (pos : Nat), wr.heap[w.heap.size]? = some (.stringIter s pos) ∧ Below w.heap.size w wr ∧ pos ≤ s.size ∧ (s.toList.take pos).any noDig = false) (fun wr => s.size - wr.iterPos w.heap.size)
  case atStart =>
    exact ⟨0, World.iter_heap w s 0, (Below.refl _ w).alloc (Nat.le_refl _) _, Nat.zero_le _, rfl⟩
  case round =>
    obtain ⟨pos, hit, hbw, hp, hno⟩ := hrel
    have hsz : w.heap.size < wr.heap.size := (Array.getElem?_eq_some_iff.1 hit).1
    by_cases hlt : pos < s.size
    · have hnx : ∀ ty, (Instr.next (.pointer (some ⟨w.heap.size, 0, none⟩)) true ty).run Tryd.prog wr = .ok (.tuple #[.bool true, .int .i64 pos, .int .i32 ((s[pos]'hlt).toNat : Int)]) (wr.iterAt w.heap.size s (pos + 1)) := fun ty => by
        have h0 := Lib.run_next_any_at (P := Tryd.prog) wr w.heap.size s pos ty hit hlt
        rw [decode_ascii s pos hlt (hs pos hlt)] at h0
        exact h0
      have HI := Aside0.mk hit
      have hit2 := Aside0.mk (Lib.iterAt_heap wr w.heap.size s pos (pos + 1) hit)
      have hbw2 := Aside0.mk (Lib.below_iterAt hbw (k := w.heap.size) (Nat.le_refl _) s (pos + 1))
      by_cases hc : noDig (s[pos]'hlt) = true
      · have ct : ∀ w', Calls Tryd.prog 32 #[.int .i32 (((s[pos]'hlt).toNat : Nat) : Int)] w' fun e w'' => e = .returned (.bool true) ∧ w'' = w' := fun w' => (debLit_calls _ w').mono (by rintro e w2 ⟨rfl, rfl⟩; rw [noDigI_b, hc]; exact ⟨rfl, rfl⟩)
        have P := Aside0.mk (placeOf_at s noDig pos hlt hno hc)
        clear hit hbw hno hp hc hs hz
        go_wp2_with (first | (go_at_call 32; (with_reducible refine (ct _).mono ?_); rintro e w1 ⟨rfl, rfl⟩))
        go_ret
        exact ⟨by rw [P.out]; rfl, hbw2.out⟩
      · have hc' : noDig (s[pos]'hlt) = false := by simpa using hc
        have ct : ∀ w', Calls Tryd.prog 32 #[.int .i32 (((s[pos]'hlt).toNat : Nat) : Int)] w' fun e w'' => e = .returned (.bool false) ∧ w'' = w' := fun w' => (debLit_calls _ w').mono (by rintro e w2 ⟨rfl, rfl⟩; rw [noDigI_b, hc']; exact ⟨rfl, rfl⟩)
        have N := Aside0.mk (show (s.toList.take (pos + 1)).any noDig = false by
          rw [take_next' s pos hlt, List.any_append, hno]
          simp [hc'])
        clear hit hbw hno hp hc hc' hs hz
        go_wp2_with (first | (go_at_call 32; (with_reducible refine (ct _).mono ?_); rintro e w1 ⟨rfl, rfl⟩))
        go_roundw
        case rel => exact ⟨pos + 1, hit2.out, hbw2.out, hlt, N.out⟩
        case measure =>
          simp only [World.iterPos, hit2.out, HI.out]
          omega
    · have hnx : ∀ ty, (Instr.next (.pointer (some ⟨w.heap.size, 0, none⟩)) true ty).run Tryd.prog wr = _ := fun ty => Lib.run_next_end_at wr w.heap.size s pos ty hit hlt
      rw [List.take_of_length_le (by rw [len_toList]; omega)] at hno
      have N := Aside0.mk (placeOf_no s noDig hno)
      have B := Aside0.mk hbw
      clear hit hbw hno hp hs hz
      go_wp2_with fail
      go_ret
      exact ⟨by rw [N.out]; rfl, B.out⟩
theorem indexFunc_calls (s : ByteArray) (w : World) (hs : asc s) (hz : s.size ≤ 140737488351232) :
    Calls Tryd.prog 31 #[.string s, .func (.func 32) #[] #[]] w fun e w' => e = .returned (.int .i64 (placeOf noDig s.toList)) ∧ Below w.heap.size w w' := by
  have c := indexFn_calls s w hs hz
  clear hs hz
  go_enter Tryd.func31, Tryd.ntmps31
  go_wp2_with (first | (go_at_call 36; (with_reducible refine c.mono ?_); rintro e w1 ⟨rfl, h1⟩))
  go_ret
  exact ⟨rfl, h1⟩
theorem place_tw (l : List UInt8) : placeOf noDig l = if (l.takeWhile Rpm.dig).length = l.length then -1 else ((l.takeWhile Rpm.dig).length : Int) := by
  have key : ∀ l : List UInt8, (l.any noDig = false ↔ (l.takeWhile Rpm.dig).length = l.length) ∧ (l.any noDig = true → l.findIdx noDig = (l.takeWhile Rpm.dig).length) := by
    intro l
    induction l with
    | nil => exact ⟨⟨fun _ => rfl, fun _ => rfl⟩, fun h => absurd h (by simp)⟩
    | cons c r ih =>
      cases hd : Rpm.dig c with
      | true =>
        have hn : noDig c = false := by unfold noDig; rw [hd]; rfl
        rw [List.any_cons, hn, Bool.false_or, List.takeWhile_cons_of_pos hd, List.findIdx_cons, hn]
        refine ⟨by rw [ih.1]; simp, fun h => ?_⟩
        simp [ih.2 h]
      | false =>
        have hn : noDig c = true := by unfold noDig; rw [hd]; rfl
        rw [List.any_cons, hn, Bool.true_or, List.takeWhile_cons_of_neg (by simp [hd]), List.findIdx_cons, hn]
        exact ⟨by simp, fun _ => by simp⟩
  unfold placeOf
  cases h : l.any noDig with
  | false => rw [if_neg (by simp), if_pos ((key l).1.1 h)]
  | true =>
    rw [if_pos rfl, (key l).2 h, if_neg (fun e => by rw [(key l).1.2 e] at h; exact absurd h (by simp))]
theorem parse_dg {l : List UInt8} (h0 : l ≠ []) (hd : l.all Rpm.dig = true) : Num.parse l = some (Num.dec l : Int) := by
  cases l with
  | nil => exact absurd rfl h0
  | cons c r =>
    have hc : Rpm.dig c = true := by rw [List.all_cons, Bool.and_eq_true] at hd; exact hd.1
    have e : Num.cutSign (c :: r) = (false, c :: r) := by
      unfold Rpm.dig at hc
      have hc := of_decide_eq_true hc
      show (if c.toNat = 45 then (true, r) else if c.toNat = 43 then (false, r) else (false, c :: r)) = _
      rw [if_neg (by omega), if_neg (by omega)]
    unfold Num.parse
    rw [e]
    have dd : Num.digits (c :: r) = true := by unfold Num.digits; rw [hd]; rfl
    rw [if_pos dd]
    rfl
set_option maxHeartbeats 4000000 in
set_option maxRecDepth 100000 in
/-- The digits that a text begins with, as a number, and what is left. -/
theorem splitDig_calls (s : ByteArray) (w : World) (hs : asc s) (hz : s.size ≤ 40000) (hL : Laid w) :
    Calls Tryd.prog 27 #[.string s] w fun e w' => ∃ b, e = .returned (.tuple #[.pointer (some ⟨b, 0, none⟩), .string (bs (s.toList.dropWhile Rpm.dig)), .nilIface]) ∧ IsBig w' b (Num.dec (s.toList.takeWhile Rpm.dig)) ∧ Below w.heap.size w w' := by
  have c := indexFunc_calls s w hs (by omega)
  rw [place_tw, len_toList] at c
  have tl := tw_le Rpm.dig s.toList
  rw [len_toList] at tl
  by_cases h0 : s.toList.takeWhile Rpm.dig = []
  · have hd : s.toList.dropWhile Rpm.dig = s.toList := by
      have := List.takeWhile_append_dropWhile (p := Rpm.dig) (l := s.toList)
      rw [h0, List.nil_append] at this
      exact this
    rw [hd, h0, ← bs_of]
    rw [h0] at c
    clear hd h0 tl
    by_cases he : s.size = 0
    · obtain rfl : s = ⟨#[]⟩ := eq_of_toList ((List.length_eq_zero_iff.1 (by rw [len_toList]; exact he)).trans (by rw [toList_eq']))
      rw [if_pos (show ([] : List UInt8).length = (⟨#[]⟩ : ByteArray).size from rfl)] at c
      clear he hs hz hL
      go_enter Tryd.func27, Tryd.ntmps27
      go_wp2_with (first | (go_at_call 31; (with_reducible refine c.mono ?_); rintro e w1 ⟨rfl, h1⟩; have H1 := Aside0.mk h1; clear h1) | (go_at_call 33; (with_reducible refine (newInt0_calls _).mono ?_); rintro e w2 ⟨b, rfl, hb, h2⟩; have HB := Aside0.mk hb; have H2 := Aside0.mk (below_then H1.out H1.out.size h2); clear hb h2))
      exact bodyPost_ret (results_list (rs := [.tmp 2, .tmp 3, .tmp 4]) rfl (by simp) (.tmp (.tmp (.tmp .nil)))) rfl ⟨b, rfl, HB.out, H2.out⟩
    · rw [if_neg (show ¬ ([] : List UInt8).length = s.size from fun e => he e.symm)] at c
      have n0 : ([] : List UInt8).length = 0 := rfl
      rw [n0] at c
      clear he hs hz hL n0
      go_enter Tryd.func27, Tryd.ntmps27
      go_wp2_with (first | (go_at_call 31; (with_reducible refine c.mono ?_); rintro e w1 ⟨rfl, h1⟩; have H1 := Aside0.mk h1; clear h1) | (go_at_call 33; (with_reducible refine (newInt0_calls _).mono ?_); rintro e w2 ⟨b, rfl, hb, h2⟩; have HB := Aside0.mk hb; have H2 := Aside0.mk (below_then H1.out H1.out.size h2); clear hb h2))
      exact bodyPost_ret (results_list (rs := [.tmp 2, .tmp 3, .tmp 4]) rfl (by simp) (.tmp (.tmp (.tmp .nil)))) rfl ⟨b, rfl, HB.out, H2.out⟩
  · obtain ⟨k, ek⟩ : ∃ k, k = (s.toList.takeWhile Rpm.dig).length := ⟨_, rfl⟩
    have kp : 0 < k := by rw [ek]; exact List.length_pos_iff.2 h0
    have al : (s.toList.takeWhile Rpm.dig).all Rpm.dig = true := List.all_takeWhile
    have hp := parse_dg h0 al
    have eh : s.extract 0 k = bs (s.toList.takeWhile Rpm.dig) := bs_eq (by rw [ext_head, ek, take_tw])
    have et : s.extract k s.size = bs (s.toList.dropWhile Rpm.dig) := bs_eq (by rw [ext_all, ek, drop_tw])
    have sz : (s.extract 0 k).size ≤ 40000 := by rw [eh, bs_size]; omega
    have ps : Num.parse (s.extract 0 k).toList = some (Num.dec (s.toList.takeWhile Rpm.dig) : Int) := by rw [eh, bs_toList]; exact hp
    have cv := fun (w' : World) (hb' : Below w.heap.size w w') => conv_some (s.extract 0 k) w' _ sz (hL.below hb') ps
    rw [← ek] at c tl
    generalize (Num.dec (s.toList.takeWhile Rpm.dig) : Int) = z at *
    have ET := Aside0.mk et
    have f2 : k ≤ s.size := tl
    have f1 : (k : Int) ≤ (s.size : Int) := Int.ofNat_le.2 tl
    have f3 : ((k : Int) == 0) = false := beq_eq_false_iff_ne.2 (by omega)
    have f5 : ((k : Int) == -1) = false := beq_eq_false_iff_ne.2 (by omega)
    have f4 : s.toList.isEmpty = false := by
      cases hh : s.toList with
      | nil => rw [hh] at h0; exact absurd rfl h0
      | cons c r => rfl
    have e9 : s.extract 0 s.size = s := eq_of_toList (by rw [ext_head, List.take_of_length_le (by rw [len_toList]; exact Nat.le_refl _)])
    by_cases he : k = s.size
    · rw [if_pos he] at c
      have RK := Aside0.mk he
      subst he
      rw [e9] at cv
      have EE := Aside0.mk (show bs (s.toList.dropWhile Rpm.dig) = ⟨#[]⟩ by
        rw [← et]
        exact eq_of_toList (by rw [ext_toList, List.drop_of_length_le (by rw [len_toList]; exact Nat.le_refl _), List.take_nil, toList_eq']))
      clear h0 al hp eh et sz ps hs hL ek tl e9
      go_enter Tryd.func27, Tryd.ntmps27
      go_wp2_with (first | (go_at_call 31; (with_reducible refine c.mono ?_); rintro e w1 ⟨rfl, h1⟩; have H1 := Aside0.mk h1; have CV := Aside0.mk (cv w1 h1); clear h1) | (go_at_call 34; (with_reducible refine CV.out.mono ?_); rintro e w2 ⟨b, rfl, hb, h2⟩; have HB := Aside0.mk hb; have H2 := Aside0.mk (below_then H1.out H1.out.size h2); clear hb h2))
      go_region
      all_goals
        go_wp2_with fail
        exact bodyPost_ret (results_list (rs := [.tmp 2, .tmp 3, .tmp 4]) rfl (by simp) (.tmp (.tmp (.tmp .nil)))) rfl ⟨b, by rw [EE.out]; rfl, HB.out.below (Below.drew (Below.refl _ _)), Below.drew H2.out⟩
    · rw [if_neg he] at c
      clear h0 al hp eh et sz ps hs hL ek tl e9 he
      go_enter Tryd.func27, Tryd.ntmps27
      go_wp2_with (first | (go_at_call 31; (with_reducible refine c.mono ?_); rintro e w1 ⟨rfl, h1⟩; have H1 := Aside0.mk h1; have CV := Aside0.mk (cv w1 h1); clear h1) | (go_at_call 34; (with_reducible refine CV.out.mono ?_); rintro e w2 ⟨b, rfl, hb, h2⟩; have HB := Aside0.mk hb; have H2 := Aside0.mk (below_then H1.out H1.out.size h2); clear hb h2))
      go_region
      all_goals
        go_wp2_with fail
        exact bodyPost_ret (results_list (rs := [.tmp 2, .tmp 3, .tmp 4]) rfl (by simp) (.tmp (.tmp (.tmp .nil)))) rfl ⟨b, by rw [← ET.out]; rfl, HB.out.below (Below.drew (Below.refl _ _)), Below.drew H2.out⟩
end Go.Proofs.YtchnlfkdgajodaaDoor.Giv
