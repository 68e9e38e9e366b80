/- What the reference answers: points put between digits and other characters. -/
import Derived.Test.YtfgechefinijbaaDoorZK
import Derived.Test.YtfgechefinijbaaDoorZD
import Derived.Test.YtfgechefinijbaaDoorZVP
import Derived.Test.YtfgechefinijbaaDoorQVx
namespace Go.Proofs.YtfgechefinijbaaDoor.QV
open Go.RowKit Go.Proofs.YtfgechefinijbaaDoorW.PrintWords Go.Proofs.YtfgechefinijbaaDoorW.PrintLast Go.Proofs.YtfgechefinijbaaDoor.Pk Go.Proofs.YtfgechefinijbaaDoor.Giv Go.Proofs.YtfgechefinijbaaDoor.Ord Go.Proofs.YtfgechefinijbaaDoor.Canon
set_option linter.unusedVariables false

def bi (l : List UInt8) : List Int := l.map (fun c => (c.toNat : Int))
theorem bi_len (l : List UInt8) : (bi l).length = l.length := by simp [bi]
theorem bi_app (l m : List UInt8) : bi l ++ bi m = bi (l ++ m) := by simp [bi]
theorem strOf_bi (l : List UInt8) : strOfNums (bi l) = bs l := by
  unfold strOfNums bs bi
  rw [List.map_map]
  congr 2
  conv => rhs; rw [← List.map_id l]
  apply List.map_congr_left
  intro c _
  simp
theorem canon_no (p q : Bool) (l : List UInt8) : canon false p l = canon false q l := by
  cases l with
  | nil => rfl
  | cons c r =>
    rw [canon, canon]
    by_cases h : c = 46
    · rw [if_pos h, if_pos h, canon_no p q r]
    · rw [if_neg h, if_neg h]
      rfl
theorem canon_loop (s : ByteArray) (hs : s.size < 100000000) (d : Nat) : ∀ (i : Nat) (cp pd : Bool) (out : List UInt8), i + d = s.size → (cp = false → i = 0 ∨ ∃ h : i - 1 < s.size, s[i - 1]'h = 46) → (cp = true → 0 < i ∧ ∃ h : i - 1 < s.size, s[i - 1]'h ≠ 46 ∧ Rpm.dig (s[i - 1]'h) = pd) → out.length + 2 * d < 1000000000 →
    Ev (fun k => spec_RubyCanonical.l0 k s (bi out) (i : Int)) (bs (out ++ canon cp pd (s.toList.drop i))) := by
  induction d with
  | zero =>
    intro i cp pd out hi h0 h1 hb
    refine Ev.step (fun k => by rw [spec_RubyCanonical.l0, strOf_bi]) ?_
    refine ev_neg (by omega) ?_
    rw [List.drop_of_length_le (by rw [len_toList]; omega)]
    have : canon cp pd [] = [] := by cases cp <;> rfl
    rw [this, List.append_nil]
    exact Ev.now _
  | succ d ih =>
    intro i cp pd out hi h0 h1 hb
    have hlt : i < s.size := by omega
    have b := bt_nat s i hlt
    have w : wrap64 ((i : Int) + 1) = ((i + 1 : Nat) : Int) := wr i (by omega)
    have len : (bi out).length < 140737488355328 := by rw [bi_len]; omega
    have dr := drop_at s i hlt
    -- the byte written
    have one : bi out ++ [((s[i]'hlt).toNat : Int)] = bi (out ++ [s[i]'hlt]) := by simp [bi]
    have two : (bi out ++ [46] : List Int) = bi (out ++ [46]) := by simp [bi]
    have next : ∀ (o : List UInt8), o.length + 2 * d < 1000000000 → Ev (fun k => spec_RubyCanonical.l0 k s (bi o) ((i + 1 : Nat) : Int)) (bs (o ++ canon (decide (s[i]'hlt ≠ 46)) (Rpm.dig (s[i]'hlt)) (s.toList.drop (i + 1)))) := fun o ho => by
      refine ih (i + 1) _ _ o (by omega) (fun h => .inr ⟨by omega, ?_⟩) (fun h => ⟨by omega, by omega, ?_, ?_⟩) ho
      · have := of_decide_eq_false h
        simpa using this
      · have := of_decide_eq_true h
        simpa using this
      · simp
    have n1 := next (out ++ [s[i]'hlt]) (by simp; omega)
    rw [← one, ← w] at n1
    by_cases h46 : s[i]'hlt = 46
    · -- a point
      have hn : ((s[i]'hlt).toNat : Int) = 46 := by rw [h46]; rfl
      have V : bs (out ++ canon cp pd (s.toList.drop i)) = bs (out ++ [s[i]'hlt] ++ canon (decide (s[i]'hlt ≠ 46)) (Rpm.dig (s[i]'hlt)) (s.toList.drop (i + 1))) := by
        rw [dr]
        conv => lhs; rw [canon]
        rw [if_pos h46, decide_eq_false (by simpa using h46), canon_no (Rpm.dig (s[i]'hlt)) pd, List.append_assoc, h46]
        rfl
      rw [V]
      refine Ev.step (fun k => by rw [spec_RubyCanonical.l0, b]) ?_
      refine ev_pos (by omega) ?_
      by_cases hi0 : (i : Int) > 0
      · exact ev_pos hi0 (ev_pos (by omega) (ev_pos hn (ev_pos len n1)))
      · exact ev_neg hi0 (ev_pos (by omega) (ev_pos len n1))
    · have hn : ¬ ((s[i]'hlt).toNat : Int) = 46 := fun h => h46 (UInt8.toNat_inj.1 (by have : (46 : UInt8).toNat = 46 := rfl; omega))
      have hd : decide (s[i]'hlt ≠ 46) = true := decide_eq_true h46
      rw [hd] at n1 next
      have V : bs (out ++ canon cp pd (s.toList.drop i)) = bs (out ++ ((if (cp && (pd != Rpm.dig (s[i]'hlt))) = true then [46] else []) ++ s[i]'hlt :: canon true (Rpm.dig (s[i]'hlt)) (s.toList.drop (i + 1)))) := by
        rw [dr]
        conv => lhs; rw [canon]
        rw [if_neg h46]
      rw [V]
      refine Ev.step (fun k => by rw [spec_RubyCanonical.l0, b]) ?_
      refine ev_pos (by omega) ?_
      cases cp with
      | false =>
        have plain : Ev (fun k => spec_RubyCanonical.l0 k s (bi out ++ [((s[i]'hlt).toNat : Int)]) (wrap64 ((i : Int) + 1))) (bs (out ++ ((if (false && (pd != Rpm.dig (s[i]'hlt))) = true then [46] else []) ++ s[i]'hlt :: canon true (Rpm.dig (s[i]'hlt)) (s.toList.drop (i + 1))))) := by
          have e : (out ++ ((if (false && (pd != Rpm.dig (s[i]'hlt))) = true then [46] else []) ++ s[i]'hlt :: canon true (Rpm.dig (s[i]'hlt)) (s.toList.drop (i + 1)))) = out ++ [s[i]'hlt] ++ canon true (Rpm.dig (s[i]'hlt)) (s.toList.drop (i + 1)) := by simp
          rw [e]
          exact n1
        rcases h0 rfl with hi0 | ⟨hp, hp46⟩
        · exact ev_neg (by omega) (ev_pos (by omega) (ev_pos len plain))
        · by_cases hi0 : (i : Int) > 0
          · have wp : wrap64 ((i : Int) - 1) = ((i - 1 : Nat) : Int) := by unfold wrap64; omega
            have bp := bt_nat s (i - 1) hp
            rw [hp46] at bp
            refine ev_pos hi0 (ev_pos (by omega) (ev_neg hn ?_))
            rw [wp, bp]
            exact ev_pos (by omega) (ev_pos (by omega) (ev_pos rfl (ev_pos len plain)))
          · exact ev_neg hi0 (ev_pos (by omega) (ev_pos len plain))
      | true =>
        obtain ⟨hi0, hp, hp46, hpd⟩ := h1 rfl
        have wp : wrap64 ((i : Int) - 1) = ((i - 1 : Nat) : Int) := by unfold wrap64; omega
        have bp := bt_nat s (i - 1) hp
        have hpn : ¬ ((s[i - 1]'hp).toNat : Int) = 46 := fun h => hp46 (UInt8.toNat_inj.1 (by have : (46 : UInt8).toNat = 46 := rfl; omega))
        refine ev_pos (by omega) (ev_pos (by omega) (ev_neg hn ?_))
        rw [wp, bp]
        refine ev_pos (by omega) (ev_pos (by omega) (ev_neg hpn ?_))
        rw [isDigit_f, isDigit_f, hpd]
        refine ev_some (ev_some ?_)
        cases hx : (Rpm.dig (s[i]'hlt) != pd) with
        | true =>
          have hx' : (pd != Rpm.dig (s[i]'hlt)) = true := by rw [bne_comm]; exact hx
          refine ev_pos rfl (ev_pos len (ev_some ?_))
          rw [two]
          refine ev_pos (by rw [bi_len]; simp; omega) ?_
          have n2 := next (out ++ [46] ++ [s[i]'hlt]) (by simp; omega)
          have one2 : bi (out ++ [46]) ++ [((s[i]'hlt).toNat : Int)] = bi (out ++ [46] ++ [s[i]'hlt]) := by simp [bi]
          rw [← one2, ← w] at n2
          have e : (out ++ ((if (true && (pd != Rpm.dig (s[i]'hlt))) = true then [46] else []) ++ s[i]'hlt :: canon true (Rpm.dig (s[i]'hlt)) (s.toList.drop (i + 1)))) = out ++ [46] ++ [s[i]'hlt] ++ canon true (Rpm.dig (s[i]'hlt)) (s.toList.drop (i + 1)) := by
            rw [hx']
            simp
          rw [e]
          exact n2
        | false =>
          have hx' : (pd != Rpm.dig (s[i]'hlt)) = false := by rw [bne_comm]; exact hx
          refine ev_neg (by simp) (ev_pos len ?_)
          have e : (out ++ ((if (true && (pd != Rpm.dig (s[i]'hlt))) = true then [46] else []) ++ s[i]'hlt :: canon true (Rpm.dig (s[i]'hlt)) (s.toList.drop (i + 1)))) = out ++ [s[i]'hlt] ++ canon true (Rpm.dig (s[i]'hlt)) (s.toList.drop (i + 1)) := by
            rw [hx']
            simp
          rw [e]
          exact n1
theorem specCanon_ev (s : ByteArray) (hs : s.size < 100000000) : Ev (fun k => spec_RubyCanonical.f k s) (bs (canon false true s.toList)) := by
  have := canon_loop s hs s.size 0 false true [] (by omega) (fun _ => .inl rfl) (fun h => absurd h (by simp)) (by simp; omega)
  rw [List.drop_zero, List.nil_append] at this
  exact this
end Go.Proofs.YtfgechefinijbaaDoor.QV
