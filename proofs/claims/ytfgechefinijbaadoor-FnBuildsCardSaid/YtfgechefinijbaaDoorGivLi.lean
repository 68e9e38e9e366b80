/- Contracts by hand: the place of a byte; the identifiers behind a version's numbers. -/
import Derived.Test.YtfgechefinijbaaDoorZK
import Derived.Test.YtfgechefinijbaaDoorZD
namespace Go.Proofs.YtfgechefinijbaaDoor.Giv
open Go.RowKit Go.Proofs.YtfgechefinijbaaDoorW.PrintWords Go.Proofs.YtfgechefinijbaaDoorW.PrintLast Go.Proofs.YtfgechefinijbaaDoor.Pk Go.Proofs.YtfgechefinijbaaDoor.Ord
set_option linter.unusedVariables false
set_option linter.unusedSimpArgs false

theorem plc_at (s : ByteArray) (f : UInt8 → Bool) (p : Nat) (h : p < s.size) (hno : (s.toList.take p).any f = false) (hy : f (s[p]'h) = true) : placeOf f s.toList = p := by
  have e : s.toList = s.toList.take p ++ (s[p]'h :: s.toList.drop (p + 1)) := by rw [← drop_at s p h, List.take_append_drop]
  unfold placeOf
  have ha : s.toList.any f = true := by
    rw [e, List.any_append]
    simp [hy]
  rw [if_pos ha, e, List.findIdx_append]
  have hl : (s.toList.take p).findIdx f = (s.toList.take p).length := List.findIdx_eq_length.2 (by simpa using hno)
  rw [hl, if_neg (by omega), List.findIdx_cons, hy, List.length_take, len_toList]
  simp
  omega
theorem plc_no (s : ByteArray) (f : UInt8 → Bool) (hno : s.toList.any f = false) : placeOf f s.toList = -1 := by
  unfold placeOf
  rw [if_neg (by simp [hno])]

def plus (x : UInt8) : Bool := x == 43
set_option maxRecDepth 100000 in
set_option maxHeartbeats 4000000 in
theorem indexOf_calls (s : ByteArray) (hs : s.size ≤ 40000) (w : World) :
    Calls Tryd.prog 76 #[.string s, .int .u8 43] w fun e w' => e = .returned (.int .i64 (placeOf plus s.toList)) ∧ w' = w := by
  go_enter Tryd.func76, Tryd.ntmps76
  go_wp2_with fail
  go_loopw [5] (fun v5 wr => wr = w ∧ ∃ (k : Nat), v5 = .int .i64 k ∧ k ≤ s.size ∧ (s.toList.take k).any plus = false) (fun v5 wr => s.size - (intOf v5).toNat)
  case atStart => exact ⟨rfl, 0, rfl, Nat.zero_le _, by simp⟩
  case round =>
    obtain ⟨rfl, k, rfl, hk, hno⟩ := hrel
    by_cases hlt : k < s.size
    · have f4 : (k : Int) < (s.size : Int) := Int.ofNat_lt.2 hlt
      by_cases hc : s[k]'hlt = 43
      · have pl := Aside0.mk (plc_at s plus k hlt hno (by unfold plus; rw [hc]; rfl))
        clear hno
        go_wp2_with fail
        rw [pl.out]
        go_ret
        exact ⟨rfl, rfl⟩
      · have hx : plus (s[k]'hlt) = false := by unfold plus; exact beq_eq_false_iff_ne.2 hc
        have nx := Aside0.mk (show (s.toList.take (k + 1)).any plus = false by
          rw [take_next' s k hlt, List.any_append, hno]
          simp [hx])
        have g1 : (((s[k]'hlt).toNat : Int) == 43) = false := by
          refine beq_eq_false_iff_ne.2 (fun h => hc (UInt8.toNat_inj.1 ?_))
          have : (s[k]'hlt).toNat = 43 := by omega
          exact this
        clear hno hx hc
        go_wp2_with fail
        refine ⟨⟨trivial, k + 1, rfl, hlt, nx.out⟩, by simp only [intOf]; omega⟩
    · have e : k = s.size := by omega
      subst e
      have f4 : ¬ (s.size : Int) < (s.size : Int) := by omega
      rw [List.take_of_length_le (by rw [len_toList]; exact Nat.le_refl _)] at hno
      have pl := Aside0.mk (plc_no s plus hno)
      clear hno
      go_wp2_with fail
      rw [pl.out]
      go_ret
      exact ⟨rfl, rfl⟩
theorem sp_plc (c : UInt8) (l : List UInt8) (h : (l.any (fun x => x == c)) = true) : placeOf (fun x => x == c) l = ((Cut.upTo c l).length : Int) := by
  unfold placeOf
  rw [if_pos h]
  congr 1
  induction l with
  | nil => simp at h
  | cons x r ih =>
    unfold Cut.upTo
    rw [List.findIdx_cons]
    by_cases hx : x = c
    · rw [List.takeWhile_cons_of_neg (by simp [hx])]
      simp [hx]
    · rw [List.takeWhile_cons_of_pos (by simp [hx])]
      rw [List.any_cons] at h
      have hr : (r.any fun x => x == c) = true := by simpa [hx] using h
      have := ih hr
      unfold Cut.upTo at this
      have hb : (x == c) = false := by simpa using hx
      rw [hb, List.length_cons]
      simp [this]
/-- What stands behind the numbers, cut at points; nothing where nothing stands there. -/
def liked (l : List UInt8) : List ByteArray := if Cut.core l = [] then [] else (Cut.cutAt 46 (Cut.core l)).map bs
theorem like_end (s T : ByteArray) (hs : s.size ≤ 40000) (hT : T.toList = Cut.core s.toList) (hne : Cut.core s.toList ≠ []) (w : World) :
    Calls Tryd.prog 49 #[.string T, .func (.func 51) #[] #[]] w fun e w' => ∃ v0_ : Value, e = .returned v0_ ∧ Kd.R Kd.string 9 w' w.heap.size (fun _ => True) v0_ (liked s.toList) ∧ Below w.heap.size w w' := by
  have hz : T.size ≤ 40000 := by
    have := Cut.core_len s.toList
    rw [← hT, len_toList, len_toList] at this
    omega
  refine (cut_calls T hz w).mono ?_
  rintro e w' ⟨v, rfl, h, d⟩
  refine ⟨v, rfl, ?_, d⟩
  unfold liked
  rw [if_neg hne, ← hT]
  exact h
set_option maxRecDepth 100000 in
set_option maxHeartbeats 4000000 in
theorem like_calls (s : ByteArray) (hs : s.size ≤ 40000) (w : World) :
    Calls Tryd.prog 62 #[.string s] w fun e w' => ∃ v0_ : Value, e = .returned v0_ ∧ Kd.R Kd.string 9 w' w.heap.size (fun _ => True) v0_ (liked s.toList) ∧ Below w.heap.size w w' := by
  have ce : ∀ T : ByteArray, T.toList = Cut.core s.toList → T.toList.isEmpty = false → ∀ w : World, Calls Tryd.prog 49 #[.string T, .func (.func 51) #[] #[]] w fun e w' => ∃ v0_ : Value, e = .returned v0_ ∧ Kd.R Kd.string 9 w' w.heap.size (fun _ => True) v0_ (liked s.toList) ∧ Below w.heap.size w w' := fun T h n w => like_end s T hs h (by
    intro c
    rw [← h] at c
    rw [c] at n
    exact absurd n (by decide)) w
  by_cases hp : s.toList.any plus = true
  · obtain ⟨m, em⟩ : ∃ m, m = (Cut.upTo 43 s.toList).length := ⟨_, rfl⟩
    have cy := (Cut.cutAt_yes 43 s.toList hp).2
    rw [← em] at cy
    have hm : m ≤ s.size := by have := cy.1; rw [len_toList] at this; omega
    have io : ∀ w', Calls Tryd.prog 76 #[.string s, .int .u8 43] w' fun e w'' => e = .returned (.int .i64 (m : Int)) ∧ w' = w'' := fun w' => by
      have := sp_plc 43 s.toList hp
      rw [← em] at this
      rw [← this]
      exact (indexOf_calls s hs w').mono (by rintro e w2 ⟨rfl, rfl⟩; exact ⟨rfl, rfl⟩)
    have up : (s.extract 0 m).toList = Cut.upTo 43 s.toList := by rw [ext_head]; exact cy.2
    have core : Cut.core s.toList = Cut.trim 45 (s.extract 0 m).toList := by unfold Cut.core; rw [up]
    have hz : (s.extract 0 m).size = m := by rw [ByteArray.size_extract]; omega
    have p1 : (0 : Int) ≤ (m : Int) := Int.natCast_nonneg m
    have p2 : (m : Int) ≤ (s.size : Int) := Int.ofNat_le.2 hm
    by_cases he : (s.extract 0 m).toList = []
    · have e1 : (s.extract 0 m).toList.isEmpty = true := by rw [he]; rfl
      have lk : liked s.toList = [] := by unfold liked; rw [core, he]; rfl
      clear hp up cy em hz core he ce
      rw [lk]
      go_enter Tryd.func62, Tryd.ntmps62
      go_wp2_with (first | (go_at_call 76; (with_reducible refine (io _).mono ?_); rintro e w1 ⟨rfl, rfl⟩))
      go_ret
      exact ⟨_, rfl, Kd.R_nil _ _ _ _ _, Below.refl _ _⟩
    · have h0 : 0 < (s.extract 0 m).size := by rw [← len_toList]; exact List.length_pos_iff.2 he
      have e1 : (s.extract 0 m).toList.isEmpty = false := by cases h : (s.extract 0 m).toList with | nil => exact absurd h he | cons => rfl
      have f1 : (0 : Int) < (m : Int) := by rw [hz] at h0; exact Int.ofNat_lt.2 h0
      have f2 : (1 : Int) ≤ (m : Int) := by omega
      have hcons : (s.extract 0 m).toList = (s.extract 0 m)[0]'h0 :: (s.extract 0 m).toList.drop 1 := by
        have := drop_at (s.extract 0 m) 0 h0
        rwa [List.drop_zero] at this
      by_cases hd : (s.extract 0 m)[0]'h0 = 45
      · have et : ((s.extract 0 m).extract 1 m).toList = Cut.core s.toList := by
          rw [show (s.extract 0 m).extract 1 m = (s.extract 0 m).extract 1 (s.extract 0 m).size by rw [hz], ext_all, core]
          conv => rhs; rw [hcons]
          unfold Cut.trim
          simp only
          rw [if_pos hd]
        by_cases hn : ((s.extract 0 m).extract 1 m).toList = []
        · have e2 : ((s.extract 0 m).extract 1 m).toList.isEmpty = true := by rw [hn]; rfl
          have lk : liked s.toList = [] := by unfold liked; rw [← et, hn]; rfl
          clear hp up cy em hz core he ce hn et hcons
          rw [lk]
          go_enter Tryd.func62, Tryd.ntmps62
          go_wp2_with (first | (go_at_call 76; (with_reducible refine (io _).mono ?_); rintro e w1 ⟨rfl, rfl⟩))
          go_ret
          exact ⟨_, rfl, Kd.R_nil _ _ _ _ _, Below.refl _ _⟩
        · have e2 : ((s.extract 0 m).extract 1 m).toList.isEmpty = false := by cases h : ((s.extract 0 m).extract 1 m).toList with | nil => exact absurd h hn | cons => rfl
          have cx := ce _ et e2
          clear hp up cy em hz core he ce hn et hcons
          go_enter Tryd.func62, Tryd.ntmps62
          go_wp2_with (first | (go_at_call 76; (with_reducible refine (io _).mono ?_); rintro e w1 ⟨rfl, rfl⟩) | (go_at_call 49; (with_reducible refine (cx _).mono ?_); rintro e w1 ⟨v, rfl, hr, hb⟩; have HR := Aside0.mk hr; have HB := Aside0.mk hb; clear hr hb))
          go_ret
          exact ⟨_, rfl, HR.out, HB.out⟩
      · have g1 : ((((s.extract 0 m)[0]'h0).toNat : Int) == 45) = false := by
          refine beq_eq_false_iff_ne.2 (fun h => hd (UInt8.toNat_inj.1 ?_))
          have : ((s.extract 0 m)[0]'h0).toNat = 45 := by omega
          exact this
        have c2 : (s.extract 0 m).toList = Cut.core s.toList := by
          rw [core]
          conv => rhs; rw [hcons]
          unfold Cut.trim
          simp only
          rw [if_neg hd, ← hcons]
        have cx := ce (s.extract 0 m) c2 e1
        clear hp up cy em hz core he hd c2 ce hcons
        go_enter Tryd.func62, Tryd.ntmps62
        go_wp2_with (first | (go_at_call 76; (with_reducible refine (io _).mono ?_); rintro e w1 ⟨rfl, rfl⟩) | (go_at_call 49; (with_reducible refine (cx _).mono ?_); rintro e w1 ⟨v, rfl, hr, hb⟩; have HR := Aside0.mk hr; have HB := Aside0.mk hb; clear hr hb))
        go_ret
        exact ⟨_, rfl, HR.out, HB.out⟩
  · have hp' : s.toList.any plus = false := Bool.eq_false_iff.2 hp
    have io : ∀ w', Calls Tryd.prog 76 #[.string s, .int .u8 43] w' fun e w'' => e = .returned (.int .i64 (-1)) ∧ w' = w'' := fun w' => by
      rw [← plc_no s plus hp']
      exact (indexOf_calls s hs w').mono (by rintro e w2 ⟨rfl, rfl⟩; exact ⟨rfl, rfl⟩)
    have up := (Cut.cutAt_no 43 s.toList hp').2
    have core : Cut.core s.toList = Cut.trim 45 s.toList := by unfold Cut.core; rw [up]
    by_cases he : s.toList = []
    · have e1 : s.toList.isEmpty = true := by rw [he]; rfl
      have lk : liked s.toList = [] := by unfold liked; rw [core, he]; rfl
      clear hp hp' up core he ce
      rw [lk]
      go_enter Tryd.func62, Tryd.ntmps62
      go_wp2_with (first | (go_at_call 76; (with_reducible refine (io _).mono ?_); rintro e w1 ⟨rfl, rfl⟩))
      go_ret
      exact ⟨_, rfl, Kd.R_nil _ _ _ _ _, Below.refl _ _⟩
    · have h0 : 0 < s.size := by rw [← len_toList]; exact List.length_pos_iff.2 he
      have e1 : s.toList.isEmpty = false := by cases h : s.toList with | nil => exact absurd h he | cons => rfl
      have f1 : (0 : Int) < (s.size : Int) := Int.ofNat_lt.2 h0
      have f2 : (1 : Int) ≤ (s.size : Int) := by omega
      have hcons : s.toList = s[0]'h0 :: s.toList.drop 1 := by
        have := drop_at s 0 h0
        rwa [List.drop_zero] at this
      by_cases hd : s[0]'h0 = 45
      · have et : (s.extract 1 s.size).toList = Cut.core s.toList := by
          rw [ext_all, core]
          conv => rhs; rw [hcons]
          unfold Cut.trim
          simp only
          rw [if_pos hd]
        by_cases hn : (s.extract 1 s.size).toList = []
        · have e2 : (s.extract 1 s.size).toList.isEmpty = true := by rw [hn]; rfl
          have lk : liked s.toList = [] := by unfold liked; rw [← et, hn]; rfl
          clear hp hp' up core he ce hn et hcons
          rw [lk]
          go_enter Tryd.func62, Tryd.ntmps62
          go_wp2_with (first | (go_at_call 76; (with_reducible refine (io _).mono ?_); rintro e w1 ⟨rfl, rfl⟩))
          go_ret
          exact ⟨_, rfl, Kd.R_nil _ _ _ _ _, Below.refl _ _⟩
        · have e2 : (s.extract 1 s.size).toList.isEmpty = false := by cases h : (s.extract 1 s.size).toList with | nil => exact absurd h hn | cons => rfl
          have cx := ce _ et e2
          clear hp hp' up core he ce hn et hcons
          go_enter Tryd.func62, Tryd.ntmps62
          go_wp2_with (first | (go_at_call 76; (with_reducible refine (io _).mono ?_); rintro e w1 ⟨rfl, rfl⟩) | (go_at_call 49; (with_reducible refine (cx _).mono ?_); rintro e w1 ⟨v, rfl, hr, hb⟩; have HR := Aside0.mk hr; have HB := Aside0.mk hb; clear hr hb))
          go_ret
          exact ⟨_, rfl, HR.out, HB.out⟩
      · have g1 : (((s[0]'h0).toNat : Int) == 45) = false := by
          refine beq_eq_false_iff_ne.2 (fun h => hd (UInt8.toNat_inj.1 ?_))
          have : (s[0]'h0).toNat = 45 := by omega
          exact this
        have c2 : s.toList = Cut.core s.toList := by
          rw [core]
          conv => rhs; rw [hcons]
          unfold Cut.trim
          simp only
          rw [if_neg hd, ← hcons]
        have cx := ce s c2 e1
        clear hp hp' up core he hd c2 ce hcons
        go_enter Tryd.func62, Tryd.ntmps62
        go_wp2_with (first | (go_at_call 76; (with_reducible refine (io _).mono ?_); rintro e w1 ⟨rfl, rfl⟩) | (go_at_call 49; (with_reducible refine (cx _).mono ?_); rintro e w1 ⟨v, rfl, hr, hb⟩; have HR := Aside0.mk hr; have HB := Aside0.mk hb; clear hr hb))
        go_ret
        exact ⟨_, rfl, HR.out, HB.out⟩
def spec_likeIdentifiers.f (a0 : ByteArray) : Option (List ByteArray) := if a0.size ≤ 40000 then some (liked a0.toList) else none
theorem spec_likeIdentifiers.calls (a0 : ByteArray) (r : List ByteArray) (w : World) (h : spec_likeIdentifiers.f a0 = some r) :
    Calls Tryd.prog 62 #[.string a0] w fun e w' => ∃ v0_ : Value, e = .returned (v0_) ∧ Kd.R Kd.string 9 w' w.heap.size (fun _ => True) v0_ r ∧ Below w.heap.size w w' := by
  unfold spec_likeIdentifiers.f at h
  split at h
  · next hc =>
    obtain rfl := Option.some.inj h
    exact like_calls a0 hc w
  · exact absurd h (by simp)
end Go.Proofs.YtfgechefinijbaaDoor.Giv
