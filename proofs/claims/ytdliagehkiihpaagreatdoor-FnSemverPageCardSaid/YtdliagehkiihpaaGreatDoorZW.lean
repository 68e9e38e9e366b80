/- Versions by the page's grammar: what is read of them. Plain Lean, no program.
   spec.lower where no walk reaches it: it is told of no text.
   Contract by hand: a text cut at points (the function is handed in). -/
import Derived.Test.YtdliagehkiihpaaGreatDoorZY
import Derived.Test.YtdliagehkiihpaaGreatDoorZD
import Derived.Test.YtdliagehkiihpaaGreatDoorZE
import Derived.Test.YtdliagehkiihpaaGreatDoorWMore
namespace Go.Proofs.YtdliagehkiihpaaGreatDoor.Slk
open Go.Proofs.YtdliagehkiihpaaGreatDoor.Rpm Go.Proofs.YtdliagehkiihpaaGreatDoor.Ord
set_option linter.unusedVariables false
theorem mem_cut (c : UInt8) : ∀ (l : List UInt8) (x : UInt8), x ∈ l → x = c ∨ ∃ p ∈ Cut.cutAt c l, x ∈ p
  | [], x, h => absurd h List.not_mem_nil
  | y :: r, x, h => by
    unfold Cut.cutAt
    by_cases hy : y = c
    · rw [if_pos hy]
      rcases List.mem_cons.1 h with e | h
      · exact .inl (e.trans hy)
      · rcases mem_cut c r x h with e | ⟨p, hp, hx⟩
        · exact .inl e
        · exact .inr ⟨p, List.mem_cons_of_mem _ hp, hx⟩
    · rw [if_neg hy]
      cases he : Cut.cutAt c r with
      | nil => exact absurd he (Cut.cutAt_ne c r)
      | cons a t =>
        rcases List.mem_cons.1 h with e | h
        · exact .inr ⟨y :: a, List.mem_cons_self, by rw [e]; exact List.mem_cons_self⟩
        · rcases mem_cut c r x h with e | ⟨p, hp, hx⟩
          · exact .inl e
          · rw [he] at hp
            rcases List.mem_cons.1 hp with e | hp
            · exact .inr ⟨y :: a, List.mem_cons_self, by rw [e] at hx; exact List.mem_cons_of_mem _ hx⟩
            · exact .inr ⟨p, List.mem_cons_of_mem _ hp, hx⟩
/-- What stands behind the numbers begins with no digit and no point. -/
def Stop (t : List UInt8) : Prop := t = [] ∨ ∃ c r, t = c :: r ∧ dig c = false ∧ c ≠ 46
theorem slk_stop {t : List UInt8} (h : Stop t) (acc : List Int) (cur : List UInt8) : slk acc cur t = (fl acc cur, t) := by
  rcases h with rfl | ⟨c, r, rfl, h1, h2⟩
  · rw [slk_nil]
  · rw [slk_cons, if_neg (by rw [h1]; decide), if_neg h2]
theorem slk_cut (t : List UInt8) (ht : Stop t) : ∀ (l : List UInt8) (acc : List Int) (cur p : List UInt8) (ps : List (List UInt8)), Cut.cutAt 46 l = p :: ps → p.all dig = true → cur ++ p ≠ [] → (∀ q ∈ ps, Num.digits q = true) → slk acc cur (l ++ t) = (acc ++ (Num.dec (cur ++ p) : Int) :: ps.map (fun q => (Num.dec q : Int)), t)
  | [], acc, cur, p, ps, h, hp, hn, hq => by
    have h : [[]] = p :: ps := h
    obtain ⟨rfl, rfl⟩ := List.cons.inj h
    rw [List.append_nil] at hn
    rw [List.nil_append, slk_stop ht, List.append_nil]
    unfold fl
    rw [if_neg hn]
    rfl
  | c :: r, acc, cur, p, ps, h, hp, hn, hq => by
    unfold Cut.cutAt at h
    by_cases h46 : c = 46
    · rw [if_pos h46] at h
      obtain ⟨e1, e2⟩ := List.cons.inj h
      subst e1
      rw [List.append_nil] at hn
      cases hc : Cut.cutAt 46 r with
      | nil => exact absurd hc (Cut.cutAt_ne 46 r)
      | cons a s =>
        rw [hc] at e2
        subst e2
        have ha := hq a List.mem_cons_self
        unfold Num.digits at ha
        rw [Bool.and_eq_true] at ha
        have h0 : ([] : List UInt8) ++ a ≠ [] := fun e => by
          rw [List.nil_append] at e
          rw [e] at ha
          exact absurd ha.1 (by decide)
        rw [List.cons_append, slk_cons, if_neg (by rw [h46]; decide), if_pos h46, slk_cut t ht r (fl acc cur) [] a s hc ha.2 h0 (fun q hq' => hq q (List.mem_cons_of_mem _ hq'))]
        unfold fl
        rw [if_neg hn, List.append_nil, List.nil_append, List.append_assoc]
        rfl
    · rw [if_neg h46] at h
      cases hc : Cut.cutAt 46 r with
      | nil => exact absurd hc (Cut.cutAt_ne 46 r)
      | cons a s =>
        rw [hc] at h
        obtain ⟨rfl, rfl⟩ := List.cons.inj h
        rw [List.all_cons, Bool.and_eq_true] at hp
        have := slk_cut t ht r acc (cur ++ [c]) a s hc hp.2 (by simp) hq
        rw [List.append_assoc] at this
        rw [List.cons_append, slk_cons, if_pos hp.1]
        exact this
/-- A text up to its first c, and what follows. -/
theorem up_split (c : UInt8) : ∀ l : List UInt8, ∃ t, l = Cut.upTo c l ++ t ∧ (∀ x ∈ Cut.upTo c l, x ≠ c) ∧ (t = [] ∧ (l.any (fun x => x == c)) = false ∨ ∃ r, t = c :: r ∧ (l.any (fun x => x == c)) = true ∧ r = l.drop ((Cut.upTo c l).length + 1))
  | [] => ⟨[], rfl, fun x h => absurd h List.not_mem_nil, .inl ⟨rfl, rfl⟩⟩
  | x :: r => by
    by_cases hx : x = c
    · have e : Cut.upTo c (x :: r) = [] := by
        unfold Cut.upTo
        rw [List.takeWhile_cons_of_neg (by simp [hx])]
      rw [e]
      exact ⟨x :: r, rfl, fun y h => absurd h List.not_mem_nil, .inr ⟨r, by rw [hx], by simp [hx], rfl⟩⟩
    · have e : Cut.upTo c (x :: r) = x :: Cut.upTo c r := by
        unfold Cut.upTo
        rw [List.takeWhile_cons_of_pos (by simp [hx])]
      obtain ⟨t, h1, h2, h3⟩ := up_split c r
      have hb : (x == c) = false := beq_eq_false_iff_ne.2 hx
      rw [e]
      refine ⟨t, by rw [List.cons_append, ← h1], ?_, ?_⟩
      · intro y hy
        rcases List.mem_cons.1 hy with rfl | hy
        · exact hx
        · exact h2 y hy
      · rcases h3 with ⟨h3, h4⟩ | ⟨q, h3, h4, h5⟩
        · exact .inl ⟨h3, by rw [List.any_cons, hb, h4]; rfl⟩
        · exact .inr ⟨q, h3, by rw [List.any_cons, h4, Bool.or_true], by rw [h5, List.length_cons]; rfl⟩
theorem up_app (c : UInt8) (b : List UInt8) : ∀ a : List UInt8, (∀ x ∈ a, x ≠ c) → Cut.upTo c (a ++ b) = a ++ Cut.upTo c b
  | [], _ => rfl
  | x :: a, h => by
    have hx : x ≠ c := h x List.mem_cons_self
    have := up_app c b a (fun y hy => h y (List.mem_cons_of_mem _ hy))
    unfold Cut.upTo at this ⊢
    rw [List.cons_append, List.takeWhile_cons_of_pos (by simp [hx]), this, List.cons_append]
/-- What stands behind the first plus sign. -/
def behind43 (l : List UInt8) : List UInt8 := if l.any (fun x => x == 43) = true then l.drop ((Cut.upTo 43 l).length + 1) else []
/-- A version by the page: the numbers' text. -/
def core3 (s : List UInt8) : List UInt8 := Cut.upTo 45 (Cut.upTo 43 s)
/-- What stands behind its first hyphen, ahead of a plus sign. -/
def pre3 (s : List UInt8) : List UInt8 := (Cut.upTo 43 s).drop ((core3 s).length + 1)
def hyp (s : List UInt8) : Bool := (Cut.upTo 43 s).any (fun x => x == 45)
theorem page_parts (s : List UInt8) : ∃ t u : List UInt8, s = core3 s ++ (t ++ u) ∧ Cut.upTo 43 s = core3 s ++ t ∧ (∀ x ∈ t, x ≠ 43) ∧ (t = [] ∧ hyp s = false ∨ t = 45 :: pre3 s ∧ hyp s = true) ∧ (u = [] ∧ (s.any (fun x => x == 43)) = false ∨ u = 43 :: behind43 s ∧ (s.any (fun x => x == 43)) = true) := by
  obtain ⟨u, h1, h2, h3⟩ := up_split 43 s
  obtain ⟨t, g1, g2, g3⟩ := up_split 45 (Cut.upTo 43 s)
  refine ⟨t, u, ?_, g1, ?_, ?_, ?_⟩
  · unfold core3
    rw [← List.append_assoc, ← g1]
    exact h1
  · intro x hx
    exact h2 x (by rw [g1]; exact List.mem_append_right _ hx)
  · rcases g3 with ⟨g3, g4⟩ | ⟨r, g3, g4, g5⟩
    · exact .inl ⟨g3, g4⟩
    · exact .inr ⟨by rw [g3, g5]; rfl, g4⟩
  · rcases h3 with ⟨h3, h4⟩ | ⟨r, h3, h4, h5⟩
    · exact .inl ⟨h3, h4⟩
    · refine .inr ⟨?_, h4⟩
      unfold behind43
      rw [if_pos h4, h3, h5]
theorem drop_of {s a b : List UInt8} (h : s = a ++ b) : s.drop a.length = b := by rw [h, List.drop_left]
theorem page_stop (s : List UInt8) : Stop (s.drop (core3 s).length) := by
  obtain ⟨t, u, h, _, _, ht, hu⟩ := page_parts s
  have e : s.drop (core3 s).length = t ++ u := drop_of h
  rw [e]
  rcases ht with ⟨rfl, _⟩ | ⟨ht, _⟩
  · rcases hu with ⟨rfl, _⟩ | ⟨hu, _⟩
    · exact .inl rfl
    · rw [hu]
      exact .inr ⟨43, _, rfl, by decide, by decide⟩
  · rw [ht]
    exact .inr ⟨45, _, rfl, by decide, by decide⟩
/-- What is read of a version by the page: its numbers, and all that stands behind them. -/
theorem parse_page (s : List UInt8) (hd : ∀ q ∈ Cut.cutAt 46 (core3 s), Num.digits q = true) : parse s = ((Cut.cutAt 46 (core3 s)).map (fun q => (Num.dec q : Int)), s.drop (core3 s).length) := by
  obtain ⟨t, u, h, _, _, _, _⟩ := page_parts s
  have e : s.drop (core3 s).length = t ++ u := drop_of h
  have st := page_stop s
  rw [e] at st ⊢
  cases hc : Cut.cutAt 46 (core3 s) with
  | nil => exact absurd hc (Cut.cutAt_ne 46 _)
  | cons p ps =>
    rw [hc] at hd
    have hp := hd p List.mem_cons_self
    unfold Num.digits at hp
    rw [Bool.and_eq_true] at hp
    have h0 : ([] : List UInt8) ++ p ≠ [] := fun e => by
      rw [List.nil_append] at e
      rw [e] at hp
      exact absurd hp.1 (by decide)
    have sl := slk_cut (t ++ u) st (core3 s) [] [] p ps hc hp.2 h0 (fun q hq => hd q (List.mem_cons_of_mem _ hq))
    rw [← h] at sl
    have hb : body s = s := by
      cases hk : core3 s with
      | nil =>
        rw [hk] at hc
        have hc : [[]] = p :: ps := hc
        obtain ⟨rfl, _⟩ := List.cons.inj hc
        exact absurd hp.1 (by decide)
      | cons c r =>
        have hcd : dig c = true := by
          rcases mem_cut 46 (core3 s) c (by rw [hk]; exact List.mem_cons_self) with e46 | ⟨q, hq, hx⟩
          · exfalso
            rw [hk, e46] at hc
            unfold Cut.cutAt at hc
            rw [if_pos rfl] at hc
            obtain ⟨rfl, _⟩ := List.cons.inj hc
            exact absurd hp.1 (by decide)
          · rw [hc] at hq
            have := hd q hq
            unfold Num.digits at this
            rw [Bool.and_eq_true, List.all_eq_true] at this
            exact this.2 c hx
        have es : s = c :: (r ++ (t ++ u)) := by
          rw [hk] at h
          exact h
        rw [es]
        exact body_dig hcd
    unfold parse
    rw [hb, sl]
    rfl
theorem page_core (s : List UInt8) : Cut.core (s.drop (core3 s).length) = if hyp s = true then pre3 s else [] := by
  obtain ⟨t, u, h, _, hn, ht, hu⟩ := page_parts s
  have e : s.drop (core3 s).length = t ++ u := drop_of h
  have eu : Cut.upTo 43 u = [] := by
    rcases hu with ⟨rfl, _⟩ | ⟨hu, _⟩
    · rfl
    · rw [hu]
      rfl
  unfold Cut.core
  rw [e, up_app 43 u t hn, eu, List.append_nil]
  rcases ht with ⟨rfl, hh⟩ | ⟨ht, hh⟩
  · rw [hh]
    rfl
  · rw [hh, ht]
    rfl
theorem dec_num (x y : List UInt8) (hx : Num.digits x = true) (hy : Num.digits y = true) : numC x y = cI (Num.dec x : Int) (Num.dec y : Int) := by
  have sg : ∀ z : List UInt8, Num.digits z = true → Seg.signed z = false ∧ Num.parse z = some (Num.dec z : Int) := fun z hz => by
    unfold Num.digits at hz
    rw [Bool.and_eq_true] at hz
    have h0 : z ≠ [] := fun e => by rw [e] at hz; exact absurd hz.1 (by decide)
    refine ⟨?_, parse_dig z h0 hz.2⟩
    cases z with
    | nil => exact absurd rfl h0
    | cons c r =>
      have hc : dig c = true := by
        have := hz.2
        rw [List.all_cons, Bool.and_eq_true] at this
        exact this.1
      have hd : 48 ≤ c.toNat ∧ c.toNat ≤ 57 := of_decide_eq_true hc
      unfold Seg.signed
      simp
      omega
  obtain ⟨s1, p1⟩ := sg x hx
  obtain ⟨s2, p2⟩ := sg y hy
  have e := Seg.idS_eq s1 s2
  unfold Seg.idS at e
  rw [hx, hy, Bool.and_self, if_pos rfl, Seg.idC_nn p1 p2] at e
  exact e
end Go.Proofs.YtdliagehkiihpaaGreatDoor.Slk

namespace Go.Proofs.YtdliagehkiihpaaGreatDoor.Giv
open Go.RowKit
set_option linter.unusedVariables false
def spec_lower.f (a0 : ByteArray) : Option ByteArray := none
theorem spec_lower.calls (a0 : ByteArray) (r : ByteArray) (w : World) (h : spec_lower.f a0 = some r) :
    Calls Tryz.prog 26 #[.string a0] w fun e w' => e = .returned (.string r) ∧ Below w.heap.size w w' := absurd h (by simp [spec_lower.f])
end Go.Proofs.YtdliagehkiihpaaGreatDoor.Giv

namespace Go.Proofs.YtdliagehkiihpaaGreatDoor.Giv
open Go.RowKit Go.Proofs.YtdliagehkiihpaaGreatDoorW.PrintWords Go.Proofs.YtdliagehkiihpaaGreatDoorW.PrintLast Go.Proofs.YtdliagehkiihpaaGreatDoor.Pk Go.Proofs.YtdliagehkiihpaaGreatDoor.Ord
set_option linter.unusedVariables false
set_option linter.unusedSimpArgs false

theorem cut_app (c : UInt8) : ∀ (a b : List UInt8), (a.any (fun x => x == c)) = false → Cut.cutAt c (a ++ c :: b) = a :: Cut.cutAt c b
  | [], b, _ => by
    rw [List.nil_append]
    conv => lhs; unfold Cut.cutAt
    rw [if_pos rfl]
  | x :: a, b, h => by
    rw [List.any_cons, Bool.or_eq_false_iff] at h
    have e := cut_app c a b h.2
    have hx : ¬ x = c := by simpa using h.1
    rw [List.cons_append]
    conv => lhs; unfold Cut.cutAt
    rw [if_neg hx, e]
theorem any_next (c x : UInt8) (l : List UInt8) (f k : Nat) (hf : f ≤ k) (hk : l[k]? = some x) (h : ((l.drop f).take (k - f)).any (fun x => x == c) = false) (hx : (x == c) = false) : ((l.drop f).take (k + 1 - f)).any (fun x => x == c) = false := by
  have e : (l.drop f)[k - f]? = some x := by rw [List.getElem?_drop, show f + (k - f) = k by omega]; exact hk
  rw [show k + 1 - f = (k - f) + 1 by omega, List.take_add_one, e, List.any_append, h]
  simp [hx]
theorem cut_at (c : UInt8) (l : List UInt8) (f k : Nat) (hf : f ≤ k) (hk : l[k]? = some c) (h : ((l.drop f).take (k - f)).any (fun x => x == c) = false) : Cut.cutAt c (l.drop f) = (l.drop f).take (k - f) :: Cut.cutAt c (l.drop (k + 1)) := by
  have e : l.drop f = (l.drop f).take (k - f) ++ c :: l.drop (k + 1) := by
    have a := (List.take_append_drop (k - f) (l.drop f)).symm
    rw [List.drop_drop, show f + (k - f) = k by omega] at a
    obtain ⟨hlt, hc⟩ := List.getElem?_eq_some_iff.1 hk
    rw [List.drop_eq_getElem_cons hlt, hc] at a
    exact a
  conv => lhs; rw [e]
  exact cut_app c _ _ h
theorem cut_infoStr : (Tryz.prog.info? 9).map (fun i => (i.zero, i.size, i.bytes)) = some (some (.string ⟨#[]⟩), 1, 16) := by kernel_rfl
theorem isPoint_calls (x : Int) (w : World) : Calls Tryz.prog 40 #[.int .u8 x] w fun e w' => e = .returned (.bool (x == 46)) ∧ w' = w := by
  go_enter Tryz.func40, Tryz.ntmps40
  go_wp2
  go_ret
  exact ⟨rfl, rfl⟩
theorem cut_piece (s : ByteArray) (f k : Nat) (l : List UInt8) (e : (s.toList.drop f).take (k - f) = l) : s.extract f k = bs l := by
  rw [← e]
  exact bs_eq (ext_toList s f k)
set_option maxRecDepth 100000 in
set_option maxHeartbeats 4000000 in
theorem cut_calls (s : ByteArray) (hs : s.size ≤ 40000) (w : World) :
    Calls Tryz.prog 39 #[.string s, .func (.func 40) #[] #[]] w fun e w' => ∃ v0_ : Value, e = .returned v0_ ∧ Kd.R Kd.string 9 w' w.heap.size (fun _ => True) v0_ ((Cut.cutAt 46 s.toList).map bs) ∧ Below w.heap.size w w' := by
  obtain ⟨full, ef⟩ : ∃ x, x = (Cut.cutAt 46 s.toList).map bs := ⟨_, rfl⟩
  have lf : full.length ≤ 40001 := by
    rw [ef, List.length_map]
    have := (Cut.cutAt_sizes 46 s.toList).1
    rw [len_toList] at this
    omega
  rw [← ef]
  go_enter Tryz.func39, Tryz.ntmps39
  go_wp2_with fail
  go_loopw [5, 6, 7] (fun v5 v6 v7 wr => ∃ (f k : Nat) (out : List ByteArray), v6 = .int .i64 f ∧ v7 = .int .i64 k ∧ f ≤ k ∧ Below w.heap.size w wr ∧ Kd.R Kd.string 9 wr w.heap.size (fun _ => True) v5 out ∧ ((k ≤ s.size ∧ out ++ (Cut.cutAt 46 (s.toList.drop f)).map bs = full ∧ ((s.toList.drop f).take (k - f)).any (fun x => x == 46) = false) ∨ (k = s.size + 1 ∧ out = full))) (fun v5 v6 v7 wr => s.size + 1 - (intOf v7).toNat)
  case atStart => exact ⟨0, 0, [], rfl, rfl, Nat.le_refl _, Below.refl _ _, Kd.R_nil _ _ _ _ _, Or.inl ⟨Nat.zero_le _, by rw [List.drop_zero, List.nil_append, ef], by simp⟩⟩
  case round =>
    obtain ⟨f, k, out, rfl, rfl, hfk, hbw, ho, hq⟩ := hrel
    have BL := Aside0.mk hbw
    have BS := Aside0.mk hbw.size
    have HO := Aside0.mk ho
    rcases hq with ⟨hk, hout, hno⟩ | ⟨rfl, hout⟩
    · have lo : out.length + 1 ≤ full.length := by
        rw [← hout, List.length_append, List.length_map]
        have := List.length_pos_iff.2 (Cut.cutAt_ne 46 (s.toList.drop f))
        omega
      have lim := Aside0.mk (show (out.length + 1) * 16 ≤ 140737488355328 by omega)
      have f4 : (k : Int) ≤ (s.size : Int) := Int.ofNat_le.2 hk
      have f5 : (f : Int) ≤ (k : Int) := Int.ofNat_le.2 hfk
      have f6 : f ≤ k := hfk
      have f7 : k ≤ s.size := hk
      have wk : wrap64 ((k : Int) + 1) = ((k + 1 : Nat) : Int) := Pk.wr k (by omega)
      by_cases he : k = s.size
      · have g1 : ((k : Int) == (s.size : Int)) = true := beq_iff_eq.2 (by rw [he])
        have pc := cut_piece s f k _ (by rw [he, List.take_of_length_le (by rw [List.length_drop, len_toList]; omega)])
        have cn := (Cut.cutAt_no 46 (s.toList.drop f) (by
          rw [he, List.take_of_length_le (by rw [List.length_drop, len_toList]; omega)] at hno
          exact hno)).1
        rw [cn] at hout
        have Q := Aside0.mk (show out ++ [s.extract f k] = full by rw [pc]; exact hout)
        clear ho hbw hout hno cn pc lo
        have RF := Aside0.mk he
        clear he
        go_wp2_with (first | ((with_reducible refine gate_builtin (b := .append) (xs := #[.tmp 25, .tmp 30]) rfl ?_); at_builtin; refine Kd.R_append Kd.string (w0 := w) w.heap.size rfl (.tmp 25) (.tmp 30) 25 9 (.string ⟨#[]⟩) 16 rfl Tryz.underlying25 cut_infoStr rfl (by decide) (by omega) u5 out (s.extract f k) [.string (s.extract f k)] (fun _ => True) (fun _ => False) rfl rfl ?aP (fun _ hk => hk.elim) ?aF ?aO ?aB ?aS ?aL ?_; (case aP => exact rfl); (case aF => exact (fun _ _ => trivial)); (case aO => exact HO.out); (case aB => exact BL.out); (case aS => exact BS.out); (case aL => exact lim.out); intro v5 w5 ho hb hg hat; have HO := Aside0.mk ho; have BL2 := Aside0.mk hb; clear ho hb hg hat))
        refine ⟨⟨k + 1, k + 1, _, rfl, rfl, Nat.le_refl _, BL2.out, HO.out, Or.inr ⟨by rw [RF.out], Q.out⟩⟩, by simp only [intOf]; omega⟩
      · have hlt : k < s.size := by omega
        have g1 : ((k : Int) == (s.size : Int)) = false := beq_eq_false_iff_ne.2 (by omega)
        have h2 : (k : Int) < (s.size : Int) := Int.ofNat_lt.2 hlt
        have b := bt_nat s k hlt
        by_cases hc : s[k]'hlt = 46
        · have hc' : (s.toList)[k]? = some 46 := by rw [List.getElem?_eq_getElem (by rw [len_toList]; exact hlt), getElem_toList s k hlt, hc]
          have pc := cut_piece s f k _ rfl
          have ca := cut_at 46 s.toList f k hfk hc' hno
          rw [ca, List.map_cons, ← pc] at hout
          have Q := Aside0.mk (show (out ++ [s.extract f k]) ++ (Cut.cutAt 46 (s.toList.drop (k + 1))).map bs = full by rw [List.append_assoc]; exact hout)
          have ct : ∀ w', Calls Tryz.prog 40 #[.int .u8 46] w' fun e w'' => e = .returned (.bool true) ∧ w'' = w' := fun w' => isPoint_calls 46 w'
          clear ho hbw hout hno ca pc lo hc' b he
          go_wp2_with (first | (go_at_call 40; (with_reducible refine (ct _).mono ?_); rintro e w1 ⟨rfl, rfl⟩) | ((with_reducible refine gate_builtin (b := .append) (xs := #[.tmp 25, .tmp 30]) rfl ?_); at_builtin; refine Kd.R_append Kd.string (w0 := w) w.heap.size rfl (.tmp 25) (.tmp 30) 25 9 (.string ⟨#[]⟩) 16 rfl Tryz.underlying25 cut_infoStr rfl (by decide) (by omega) u5 out (s.extract f k) [.string (s.extract f k)] (fun _ => True) (fun _ => False) rfl rfl ?aP (fun _ hk => hk.elim) ?aF ?aO ?aB ?aS ?aL ?_; (case aP => exact rfl); (case aF => exact (fun _ _ => trivial)); (case aO => exact HO.out); (case aB => exact BL.out); (case aS => exact BS.out); (case aL => exact lim.out); intro v5 w5 ho hb hg hat; have HO := Aside0.mk ho; have BL2 := Aside0.mk hb; clear ho hb hg hat))
          refine ⟨⟨k + 1, k + 1, _, rfl, rfl, Nat.le_refl _, BL2.out, HO.out, Or.inl ⟨hlt, Q.out, by simp⟩⟩, by simp only [intOf]; omega⟩
        · have hx : ((s[k]'hlt) == (46 : UInt8)) = false := beq_eq_false_iff_ne.2 hc
          have N := Aside0.mk (any_next 46 _ s.toList f k hfk (by rw [List.getElem?_eq_getElem (by rw [len_toList]; exact hlt), getElem_toList s k hlt]) hno hx)
          have Q := Aside0.mk hout
          have bn : (((s[k]'hlt).toNat : Int) == 46) = false := by
            refine beq_eq_false_iff_ne.2 (fun h => hc (UInt8.toNat_inj.1 ?_))
            have : (s[k]'hlt).toNat = 46 := by omega
            exact this
          have ct : ∀ w', Calls Tryz.prog 40 #[.int .u8 (((s[k]'hlt).toNat : Nat) : Int)] w' fun e w'' => e = .returned (.bool false) ∧ w'' = w' := fun w' => (isPoint_calls (((s[k]'hlt).toNat : Nat) : Int) w').mono (by rintro e w2 ⟨rfl, rfl⟩; rw [bn]; exact ⟨rfl, rfl⟩)
          clear ho hbw hout hno lo bn hx b he
          go_wp2_with (first | (go_at_call 40; (with_reducible refine (ct _).mono ?_); rintro e w1 ⟨rfl, rfl⟩))
          refine ⟨⟨f, k + 1, _, rfl, rfl, Nat.le_succ_of_le hfk, BL.out, HO.out, Or.inl ⟨hlt, Q.out, N.out⟩⟩, by simp only [intOf]; omega⟩
    · have f4 : ¬ ((s.size + 1 : Nat) : Int) ≤ (s.size : Int) := by omega
      rw [hout, ef] at ho
      have HO := Aside0.mk ho
      clear ho hbw
      go_wp2_with fail
      go_ret
      exact ⟨_, rfl, HO.out, BL.out⟩
def spec_cut_isPoint.f (a0 : ByteArray) : Option (List ByteArray) := if a0.size ≤ 40000 then some ((Cut.cutAt 46 a0.toList).map bs) else none
theorem spec_cut_isPoint.calls (a0 : ByteArray) (r : List ByteArray) (w : World) (h : spec_cut_isPoint.f a0 = some r) :
    Calls Tryz.prog 39 #[.string a0, .func (.func 40) #[] #[]] w fun e w' => ∃ v0_ : Value, e = .returned (v0_) ∧ Kd.R Kd.string 9 w' w.heap.size (fun _ => True) v0_ r ∧ Below w.heap.size w w' := by
  unfold spec_cut_isPoint.f at h
  split at h
  · next hc =>
    obtain rfl := Option.some.inj h
    exact cut_calls a0 hc w
  · exact absurd h (by simp)
end Go.Proofs.YtdliagehkiihpaaGreatDoor.Giv
