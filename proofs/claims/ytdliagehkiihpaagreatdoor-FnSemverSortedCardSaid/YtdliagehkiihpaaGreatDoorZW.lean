/- Versions by the page's grammar: what is read of them. Plain Lean, no program.
   spec.lower where no walk reaches it: it is told of no text.
   Contract by hand: a text cut at points (the function is handed in). -/
import Derived.Test.YtdliagehkiihpaaGreatDoorZY
import Derived.Test.YtdliagehkiihpaaGreatDoorZD
import Derived.Test.YtdliagehkiihpaaGreatDoorZE
import Derived.Test.YtdliagehkiihpaaGreatDoorWMore
namespace Go.Proofs.YtdliagehkiihpaaGreatDoor.Slk
open Go.Proofs.YtdliagehkiihpaaGreatDoor.Rpm Go.Proofs.YtdliagehkiihpaaGreatDoor.Ord
set_option linter.unusedVariables false
/-- What stands behind the numbers begins with no digit and no point. -/
def Stop (t : List UInt8) : Prop := t = [] ∨ ∃ c r, t = c :: r ∧ dig c = false ∧ c ≠ 46
end Go.Proofs.YtdliagehkiihpaaGreatDoor.Slk

namespace Go.Proofs.YtdliagehkiihpaaGreatDoor.Giv
open Go.RowKit
set_option linter.unusedVariables false
def spec_lower.f (a0 : ByteArray) : Option ByteArray := none
theorem spec_lower.calls (a0 : ByteArray) (r : ByteArray) (w : World) (h : spec_lower.f a0 = some r) :
    Calls Tryz.prog 26 #[.string a0] w fun e w' => e = .returned (.string r) ∧ Below w.heap.size w w' := absurd h (by simp [spec_lower.f])
end Go.Proofs.YtdliagehkiihpaaGreatDoor.Giv

namespace Go.Proofs.YtdliagehkiihpaaGreatDoor.Giv
open Go.RowKit Go.Proofs.YtdliagehkiihpaaGreatDoorW.PrintWords Go.Proofs.YtdliagehkiihpaaGreatDoorW.PrintLast Go.Proofs.YtdliagehkiihpaaGreatDoor.Pk Go.Proofs.YtdliagehkiihpaaGreatDoor.Ord
set_option linter.unusedVariables false
set_option linter.unusedSimpArgs false

theorem cut_app (c : UInt8) : ∀ (a b : List UInt8), (a.any (fun x => x == c)) = false → Cut.cutAt c (a ++ c :: b) = a :: Cut.cutAt c b
  | [], b, _ => by
    rw [List.nil_append]
    conv => lhs; unfold Cut.cutAt
    rw [if_pos rfl]
  | x :: a, b, h => by
    rw [List.any_cons, Bool.or_eq_false_iff] at h
    have e := cut_app c a b h.2
    have hx : ¬ x = c := by simpa using h.1
    rw [List.cons_append]
    conv => lhs; unfold Cut.cutAt
    rw [if_neg hx, e]
theorem any_next (c x : UInt8) (l : List UInt8) (f k : Nat) (hf : f ≤ k) (hk : l[k]? = some x) (h : ((l.drop f).take (k - f)).any (fun x => x == c) = false) (hx : (x == c) = false) : ((l.drop f).take (k + 1 - f)).any (fun x => x == c) = false := by
  have e : (l.drop f)[k - f]? = some x := by rw [List.getElem?_drop, show f + (k - f) = k by omega]; exact hk
  rw [show k + 1 - f = (k - f) + 1 by omega, List.take_add_one, e, List.any_append, h]
  simp [hx]
theorem cut_at (c : UInt8) (l : List UInt8) (f k : Nat) (hf : f ≤ k) (hk : l[k]? = some c) (h : ((l.drop f).take (k - f)).any (fun x => x == c) = false) : Cut.cutAt c (l.drop f) = (l.drop f).take (k - f) :: Cut.cutAt c (l.drop (k + 1)) := by
  have e : l.drop f = (l.drop f).take (k - f) ++ c :: l.drop (k + 1) := by
    have a := (List.take_append_drop (k - f) (l.drop f)).symm
    rw [List.drop_drop, show f + (k - f) = k by omega] at a
    obtain ⟨hlt, hc⟩ := List.getElem?_eq_some_iff.1 hk
    rw [List.drop_eq_getElem_cons hlt, hc] at a
    exact a
  conv => lhs; rw [e]
  exact cut_app c _ _ h
theorem cut_infoStr : (Tryz.prog.info? 9).map (fun i => (i.zero, i.size, i.bytes)) = some (some (.string ⟨#[]⟩), 1, 16) := by kernel_rfl
theorem isPoint_calls (x : Int) (w : World) : Calls Tryz.prog 40 #[.int .u8 x] w fun e w' => e = .returned (.bool (x == 46)) ∧ w' = w := by
  go_enter Tryz.func40, Tryz.ntmps40
  go_wp2
  go_ret
  exact ⟨rfl, rfl⟩
theorem cut_piece (s : ByteArray) (f k : Nat) (l : List UInt8) (e : (s.toList.drop f).take (k - f) = l) : s.extract f k = bs l := by
  rw [← e]
  exact bs_eq (ext_toList s f k)
set_option maxRecDepth 100000 in
set_option maxHeartbeats 4000000 in
theorem cut_calls (s : ByteArray) (hs : s.size ≤ 40000) (w : World) :
    Calls Tryz.prog 39 #[.string s, .func (.func 40) #[] #[]] w fun e w' => ∃ v0_ : Value, e = .returned v0_ ∧ Kd.R Kd.string 9 w' w.heap.size (fun _ => True) v0_ ((Cut.cutAt 46 s.toList).map bs) ∧ Below w.heap.size w w' := by
  obtain ⟨full, ef⟩ : ∃ x, x = (Cut.cutAt 46 s.toList).map bs := ⟨_, rfl⟩
  have lf : full.length ≤ 40001 := by
    rw [ef, List.length_map]
    have := (Cut.cutAt_sizes 46 s.toList).1
    rw [len_toList] at this
    omega
  rw [← ef]
  go_enter Tryz.func39, Tryz.ntmps39
  go_wp2_with fail
  go_loopw [5, 6, 7] (fun v5 v6 v7 wr => ∃ (f k : Nat) (out : List ByteArray), v6 = .int .i64 f ∧ v7 = .int .i64 k ∧ f ≤ k ∧ Below w.heap.size w wr ∧ Kd.R Kd.string 9 wr w.heap.size (fun _ => True) v5 out ∧ ((k ≤ s.size ∧ out ++ (Cut.cutAt 46 (s.toList.drop f)).map bs = full ∧ ((s.toList.drop f).take (k - f)).any (fun x => x == 46) = false) ∨ (k = s.size + 1 ∧ out = full))) (fun v5 v6 v7 wr => s.size + 1 - (intOf v7).toNat)
  case atStart => exact ⟨0, 0, [], rfl, rfl, Nat.le_refl _, Below.refl _ _, Kd.R_nil _ _ _ _ _, Or.inl ⟨Nat.zero_le _, by rw [List.drop_zero, List.nil_append, ef], by simp⟩⟩
  case round =>
    obtain ⟨f, k, out, rfl, rfl, hfk, hbw, ho, hq⟩ := hrel
    have BL := Aside0.mk hbw
    have BS := Aside0.mk hbw.size
    have HO := Aside0.mk ho
    rcases hq with ⟨hk, hout, hno⟩ | ⟨rfl, hout⟩
    · have lo : out.length + 1 ≤ full.length := by
        rw [← hout, List.length_append, List.length_map]
        have := List.length_pos_iff.2 (Cut.cutAt_ne 46 (s.toList.drop f))
        omega
      have lim := Aside0.mk (show (out.length + 1) * 16 ≤ 140737488355328 by omega)
      have f4 : (k : Int) ≤ (s.size : Int) := Int.ofNat_le.2 hk
      have f5 : (f : Int) ≤ (k : Int) := Int.ofNat_le.2 hfk
      have f6 : f ≤ k := hfk
      have f7 : k ≤ s.size := hk
      have wk : wrap64 ((k : Int) + 1) = ((k + 1 : Nat) : Int) := Pk.wr k (by omega)
      by_cases he : k = s.size
      · have g1 : ((k : Int) == (s.size : Int)) = true := beq_iff_eq.2 (by rw [he])
        have pc := cut_piece s f k _ (by rw [he, List.take_of_length_le (by rw [List.length_drop, len_toList]; omega)])
        have cn := (Cut.cutAt_no 46 (s.toList.drop f) (by
          rw [he, List.take_of_length_le (by rw [List.length_drop, len_toList]; omega)] at hno
          exact hno)).1
        rw [cn] at hout
        have Q := Aside0.mk (show out ++ [s.extract f k] = full by rw [pc]; exact hout)
        clear ho hbw hout hno cn pc lo
        have RF := Aside0.mk he
        clear he
        go_wp2_with (first | ((with_reducible refine gate_builtin (b := .append) (xs := #[.tmp 25, .tmp 30]) rfl ?_); at_builtin; refine Kd.R_append Kd.string (w0 := w) w.heap.size rfl (.tmp 25) (.tmp 30) 25 9 (.string ⟨#[]⟩) 16 rfl Tryz.underlying25 cut_infoStr rfl (by decide) (by omega) u5 out (s.extract f k) [.string (s.extract f k)] (fun _ => True) (fun _ => False) rfl rfl ?aP (fun _ hk => hk.elim) ?aF ?aO ?aB ?aS ?aL ?_; (case aP => exact rfl); (case aF => exact (fun _ _ => trivial)); (case aO => exact HO.out); (case aB => exact BL.out); (case aS => exact BS.out); (case aL => exact lim.out); intro v5 w5 ho hb hg hat; have HO := Aside0.mk ho; have BL2 := Aside0.mk hb; clear ho hb hg hat))
        refine ⟨⟨k + 1, k + 1, _, rfl, rfl, Nat.le_refl _, BL2.out, HO.out, Or.inr ⟨by rw [RF.out], Q.out⟩⟩, by simp only [intOf]; omega⟩
      · have hlt : k < s.size := by omega
        have g1 : ((k : Int) == (s.size : Int)) = false := beq_eq_false_iff_ne.2 (by omega)
        have h2 : (k : Int) < (s.size : Int) := Int.ofNat_lt.2 hlt
        have b := bt_nat s k hlt
        by_cases hc : s[k]'hlt = 46
        · have hc' : (s.toList)[k]? = some 46 := by rw [List.getElem?_eq_getElem (by rw [len_toList]; exact hlt), getElem_toList s k hlt, hc]
          have pc := cut_piece s f k _ rfl
          have ca := cut_at 46 s.toList f k hfk hc' hno
          rw [ca, List.map_cons, ← pc] at hout
          have Q := Aside0.mk (show (out ++ [s.extract f k]) ++ (Cut.cutAt 46 (s.toList.drop (k + 1))).map bs = full by rw [List.append_assoc]; exact hout)
          have ct : ∀ w', Calls Tryz.prog 40 #[.int .u8 46] w' fun e w'' => e = .returned (.bool true) ∧ w'' = w' := fun w' => isPoint_calls 46 w'
          clear ho hbw hout hno ca pc lo hc' b he
          go_wp2_with (first | (go_at_call 40; (with_reducible refine (ct _).mono ?_); rintro e w1 ⟨rfl, rfl⟩) | ((with_reducible refine gate_builtin (b := .append) (xs := #[.tmp 25, .tmp 30]) rfl ?_); at_builtin; refine Kd.R_append Kd.string (w0 := w) w.heap.size rfl (.tmp 25) (.tmp 30) 25 9 (.string ⟨#[]⟩) 16 rfl Tryz.underlying25 cut_infoStr rfl (by decide) (by omega) u5 out (s.extract f k) [.string (s.extract f k)] (fun _ => True) (fun _ => False) rfl rfl ?aP (fun _ hk => hk.elim) ?aF ?aO ?aB ?aS ?aL ?_; (case aP => exact rfl); (case aF => exact (fun _ _ => trivial)); (case aO => exact HO.out); (case aB => exact BL.out); (case aS => exact BS.out); (case aL => exact lim.out); intro v5 w5 ho hb hg hat; have HO := Aside0.mk ho; have BL2 := Aside0.mk hb; clear ho hb hg hat))
          refine ⟨⟨k + 1, k + 1, _, rfl, rfl, Nat.le_refl _, BL2.out, HO.out, Or.inl ⟨hlt, Q.out, by simp⟩⟩, by simp only [intOf]; omega⟩
        · have hx : ((s[k]'hlt) == (46 : UInt8)) = false := beq_eq_false_iff_ne.2 hc
          have N := Aside0.mk (any_next 46 _ s.toList f k hfk (by rw [List.getElem?_eq_getElem (by rw [len_toList]; exact hlt), getElem_toList s k hlt]) hno hx)
          have Q := Aside0.mk hout
          have bn : (((s[k]'hlt).toNat : Int) == 46) = false := by
            refine beq_eq_false_iff_ne.2 (fun h => hc (UInt8.toNat_inj.1 ?_))
            have : (s[k]'hlt).toNat = 46 := by omega
            exact this
          have ct : ∀ w', Calls Tryz.prog 40 #[.int .u8 (((s[k]'hlt).toNat : Nat) : Int)] w' fun e w'' => e = .returned (.bool false) ∧ w'' = w' := fun w' => (isPoint_calls (((s[k]'hlt).toNat : Nat) : Int) w').mono (by rintro e w2 ⟨rfl, rfl⟩; rw [bn]; exact ⟨rfl, rfl⟩)
          clear ho hbw hout hno lo bn hx b he
          go_wp2_with (first | (go_at_call 40; (with_reducible refine (ct _).mono ?_); rintro e w1 ⟨rfl, rfl⟩))
          refine ⟨⟨f, k + 1, _, rfl, rfl, Nat.le_succ_of_le hfk, BL.out, HO.out, Or.inl ⟨hlt, Q.out, N.out⟩⟩, by simp only [intOf]; omega⟩
    · have f4 : ¬ ((s.size + 1 : Nat) : Int) ≤ (s.size : Int) := by omega
      rw [hout, ef] at ho
      have HO := Aside0.mk ho
      clear ho hbw
      go_wp2_with fail
      go_ret
      exact ⟨_, rfl, HO.out, BL.out⟩
def spec_cut_isPoint.f (a0 : ByteArray) : Option (List ByteArray) := if a0.size ≤ 40000 then some ((Cut.cutAt 46 a0.toList).map bs) else none
theorem spec_cut_isPoint.calls (a0 : ByteArray) (r : List ByteArray) (w : World) (h : spec_cut_isPoint.f a0 = some r) :
    Calls Tryz.prog 39 #[.string a0, .func (.func 40) #[] #[]] w fun e w' => ∃ v0_ : Value, e = .returned (v0_) ∧ Kd.R Kd.string 9 w' w.heap.size (fun _ => True) v0_ r ∧ Below w.heap.size w w' := by
  unfold spec_cut_isPoint.f at h
  split at h
  · next hc =>
    obtain rfl := Option.some.inj h
    exact cut_calls a0 hc w
  · exact absurd h (by simp)
end Go.Proofs.YtdliagehkiihpaaGreatDoor.Giv
