/- Contracts by hand: rows of whole numbers of any size: what they are in memory, an element or 0, two rows compared. -/
import Derived.Test.YtcaeghgbeldlaaaMGivL
import Derived.Test.YtcaeghgbeldlaaaWMore
import Derived.BigQuiet
import Derived.Deep.QuietTactic
import Derived.Outline
namespace Go.Proofs.Ytcaeghgbeldlaaa.Giv
open Go.RowKit Go.Proofs.YtcaeghgbeldlaaaW.PrintWords Go.Proofs.YtcaeghgbeldlaaaW.PrintLast Go.Proofs.Ytcaeghgbeldlaaa.Pk Go.Proofs.Ytcaeghgbeldlaaa.Ord Go.Proofs.Ytcaeghgbeldlaaa.QM
set_option linter.unusedVariables false
set_option linter.unusedSimpArgs false

theorem cell_block {w w1 : World} (p : Addr) (h : w1.heap[p.block]? = w.heap[p.block]?) : w1.cell? p = w.cell? p := by
  unfold World.cell?
  rw [h]
theorem add_block (a : Addr) (k : Nat) : (a.add k).block = a.block := by
  unfold Addr.add
  split <;> rfl
theorem C_moved {α : Type} {enc : α → Value} {h1 : ∀ x, (enc x).oneCell' = true} {w w1 : World} {A : Option Addr} {n : Nat} {xs : List α} (h : (Kd.scalar enc h1).C w A n xs) (hm : ∀ a, A = some a → w1.heap[a.block]? = w.heap[a.block]?) : (Kd.scalar enc h1).C w1 A n xs := by
  refine ⟨h.1, h.2.1, fun h0 => ?_⟩
  obtain ⟨ad, he, hc⟩ := h.2.2 h0
  refine ⟨ad, he, fun j p hj => ?_⟩
  obtain ⟨c, c1, c2, c3⟩ := hc j p hj
  refine ⟨c, c1, c2, fun i u hu => ?_⟩
  rw [cell_block (w := w) (w1 := w1) _ (by rw [add_block]; exact hm ad he)]
  exact c3 i u hu
theorem IsBig.kept {w w1 : World} {b : Nat} {z : Int} (h : IsBig w b z) (hm : ∀ (k : Nat) (cells : Array Value) (q : TypeId), w.heap[k]? = some (Obj.cells cells q (0, 0)) → (q = 49 ∨ q = 58) → w1.heap[k]? = w.heap[k]?) : IsBig w1 b z := by
  obtain ⟨A, c, h1, h3, h4, h5, h6⟩ := h
  have hA : ∀ a, A = some a → w1.heap[a.block]? = w.heap[a.block]? := fun a e => by
    obtain ⟨arr, ha⟩ := h6 a e
    exact hm _ _ _ ha (.inr rfl)
  refine ⟨A, c, (hm _ _ _ h1 (.inl rfl)).trans h1, h3, h4, C_moved h5 hA, fun a e => ?_⟩
  obtain ⟨arr, ha⟩ := h6 a e
  exact ⟨arr, (hA a e).trans ha⟩
/-- Over a step that turns one row alone, of another type. -/
theorem IsBig.grown {w w1 : World} {b : Nat} {z : Int} (h : IsBig w b z) {row : Option Nat} (hg : w.grownBy w1 row) (ht : ∀ (k : Nat) (cells : Array Value) (q : TypeId), row = some k → w.heap[k]? = some (Obj.cells cells q (0, 0)) → q ≠ 49 ∧ q ≠ 58) : IsBig w1 b z := by
  refine h.kept (fun k cells q hk hq => hg.block k (Array.getElem?_eq_some_iff.1 hk).1 (fun e => ?_))
  have := ht k cells q e.symm hk
  rcases hq with hq | hq
  · exact this.1 hq
  · exact this.2 hq
/-- A pointer to a number's block. -/
abbrev ptrK : Kd Nat := Kd.scalar (fun b => .pointer (some ⟨b, 0, none⟩)) (fun _ => rfl)
/-- The numbers at some blocks. -/
def Bigs (w : World) (ps : List Nat) (zs : List Int) : Prop := ps.length = zs.length ∧ ∀ (j p : Nat) (z : Int), ps[j]? = some p → zs[j]? = some z → IsBig w p z
theorem Bigs.below {w w1 : World} {ps : List Nat} {zs : List Int} (h : Bigs w ps zs) (hb : Below w.heap.size w w1) : Bigs w1 ps zs := ⟨h.1, fun j p z h1 h2 => (h.2 j p z h1 h2).below hb⟩
theorem Bigs.nil (w : World) : Bigs w [] [] := ⟨rfl, fun j p z h => by simp at h⟩
theorem Bigs.snoc {w : World} {ps : List Nat} {zs : List Int} {p : Nat} {z : Int} (h : Bigs w ps zs) (hp : IsBig w p z) : Bigs w (ps ++ [p]) (zs ++ [z]) := by
  refine ⟨by simp [h.1], fun j q y h1 h2 => ?_⟩
  rcases Nat.lt_or_ge j ps.length with hj | hj
  · rw [List.getElem?_append_left hj] at h1
    rw [List.getElem?_append_left (by rw [← h.1]; exact hj)] at h2
    exact h.2 j q y h1 h2
  · rw [List.getElem?_append_right hj] at h1
    rw [List.getElem?_append_right (by rw [← h.1]; exact hj), ← h.1] at h2
    obtain ⟨e, _⟩ := List.getElem?_eq_some_iff.1 h1
    have e0 : j - ps.length = 0 := by simp at e; omega
    rw [e0] at h1 h2
    simp at h1 h2
    rw [← h1, ← h2]
    exact hp
/-- A row of numbers that is read. -/
def BRow (w : World) (A : Option Addr) (zs : List Int) : Prop := ∃ ps, ptrK.C w A zs.length ps ∧ Bigs w ps zs
theorem BRow.below {w w1 : World} {A : Option Addr} {zs : List Int} (h : BRow w A zs) (hb : Below w.heap.size w w1) : BRow w1 A zs := by
  obtain ⟨ps, h1, h2⟩ := h
  exact ⟨ps, Kd.C_below h1 hb, h2.below hb⟩
theorem BRow.nil (w : World) : BRow w none [] := ⟨[], Kd.C_nil _ _, Bigs.nil w⟩
theorem BRow.at_ {w : World} {A : Option Addr} {zs : List Int} (h : BRow w A zs) (i : Nat) (hi : i < zs.length) : ∃ ad p, A = some ad ∧ w.cell? (ad.add i) = some (.pointer (some ⟨p, 0, none⟩)) ∧ IsBig w p (zs[i]'hi) := by
  obtain ⟨ps, h1, h2⟩ := h
  have hlp : i < ps.length := by rw [h2.1]; exact hi
  obtain ⟨ad, e, c⟩ := h1.2.2 (by omega)
  obtain ⟨cs, c1, c2, c3⟩ := c i _ (List.getElem?_eq_getElem hlp)
  refine ⟨ad, ps[i]'hlp, e, ?_, h2.2 i _ _ (List.getElem?_eq_getElem hlp) (List.getElem?_eq_getElem hi)⟩
  have c2' : cs = [.pointer (some ⟨ps[i]'hlp, 0, none⟩)] := c2
  have := c3 0 (.pointer (some ⟨ps[i]'hlp, 0, none⟩)) (by rw [c2']; rfl)
  have e1 : i * (ptrK).sz + 0 = i := by
    show i * 1 + 0 = i
    omega
  rwa [e1] at this
/-- A row of numbers of the call's own. -/
def BOwn (w : World) (base : Nat) (v : Value) (zs : List Int) : Prop := ∃ ps, ptrK.R 41 w base (fun _ => True) v ps ∧ Bigs w ps zs
theorem BOwn.nil (w : World) (base : Nat) : BOwn w base (.slice none 0 0) [] := ⟨[], Kd.R_nil _ _ _ _ _, Bigs.nil w⟩
theorem BOwn.below {w w1 : World} {base : Nat} {v : Value} {zs : List Int} (h : BOwn w base v zs) (hb : Below w.heap.size w w1) : BOwn w1 base v zs := by
  obtain ⟨ps, h1, h2⟩ := h
  exact ⟨ps, Kd.R_below h1 hb, h2.below hb⟩
theorem BOwn.slice {w : World} {base : Nat} {v : Value} {zs : List Int} (h : BOwn w base v zs) : ∃ A c, v = .slice A zs.length c ∧ zs.length ≤ c ∧ BRow w A zs := by
  obtain ⟨ps, h1, h2⟩ := h
  obtain ⟨A, c, e, hc, hr⟩ := Kd.R_reads h1
  rw [h2.1] at e hc hr
  exact ⟨A, c, e, hc, ps, hr, h2⟩
theorem BOwn.lower {w : World} {base base' : Nat} {v : Value} {zs : List Int} (h : BOwn w base v zs) (hb : base' ≤ base) : BOwn w base' v zs := by
  obtain ⟨ps, h1, h2⟩ := h
  exact ⟨ps, Kd.R_lower h1 hb, h2⟩
/-- What an append of a number leaves. -/
theorem BOwn.more {w w1 : World} {base : Nat} {v v1 : Value} {ps : List Nat} {zs : List Int} {p : Nat} {z : Int} (h1 : ptrK.R 41 w base (fun _ => True) v ps) (h2 : Bigs w ps zs) (hp : IsBig w p z) (hr : ptrK.R 41 w1 base (fun _ => True) v1 (ps ++ [p])) (hg : w.grownBy w1 v.ownBlock) : BOwn w1 base v1 (zs ++ [z]) := by
  obtain ⟨inner, ho⟩ := Kd.R_own h1
  have ht : ∀ (k : Nat) (cells : Array Value) (q : TypeId), v.ownBlock = some k → w.heap[k]? = some (Obj.cells cells q (0, 0)) → q ≠ 49 ∧ q ≠ 58 := by
    intro k cells q hk hc
    obtain ⟨cells', hc'⟩ := own_typed ho k hk
    rw [hc] at hc'
    injection hc' with hc'
    injection hc' with _ hc'
    rw [hc']
    decide
  exact ⟨_, hr, Bigs.snoc ⟨h2.1, fun j q y e1 e2 => (h2.2 j q y e1 e2).grown hg ht⟩ (hp.grown hg ht)⟩
/-- Over a store into a block of another type. -/
theorem IsBig.put {w : World} {b : Nat} {z : Int} (h : IsBig w b z) {g t : Nat} {cells : Array Value} (hb : w.heap[g]? = some (Obj.cells cells t (0, 0))) (ht : t ≠ 49 ∧ t ≠ 58) (j : Nat) (u : Value) : IsBig (w.setCell ⟨g, j, none⟩ u) b z := by
  refine h.kept (fun k cells' q hk hq => Below.heap_setCell w ⟨g, j, none⟩ u k (fun e => ?_))
  have e' : k = g := e
  rw [e', hb] at hk
  injection hk with hk
  injection hk with _ hk
  rcases hq with hq | hq
  · exact ht.1 (hk.trans hq)
  · exact ht.2 (hk.trans hq)
theorem BOwn.put {w : World} {base : Nat} {v : Value} {zs : List Int} (h : BOwn w base v zs) {g t : Nat} {cells : Array Value} (hb : w.heap[g]? = some (Obj.cells cells t (0, 0))) (ht : t ≠ 49 ∧ t ≠ 58) (hp : t ≠ 41) (j : Nat) (u : Value) : BOwn (w.setCell ⟨g, j, none⟩ u) base v zs := by
  obtain ⟨ps, h1, h2⟩ := h
  refine ⟨ps, Kd.R_set h1 hb (fun q hq => ?_) j u, h2.1, fun i p z e1 e2 => (h2.2 i p z e1 e2).put hb ht j u⟩
  rcases List.mem_cons.1 hq with e | e
  · rw [e]; exact fun e2 => hp e2.symm
  · exact absurd e List.not_mem_nil
theorem wd_zero : ws (wd 0) = [] := by
  unfold wd
  rw [show (0 : Int).natAbs = 0 from rfl, Dg.dg_zero]
  rfl
theorem isBig_zero (w : World) : IsBig (w.alloc (.cells #[.bool false, .slice none 0 0] 49)) w.heap.size 0 := by
  unfold IsBig
  rw [wd_zero]
  exact ⟨none, 0, blk_new _ _, Nat.le_refl _, Nat.zero_le _, Kd.C_nil _ _, fun a e => by cases e⟩
set_option maxHeartbeats 1000000 in
theorem newInt_calls (w : World) : Calls Try.prog 23 #[.int .i64 0] w fun e w' => ∃ b, e = .returned (.pointer (some ⟨b, 0, none⟩)) ∧ IsBig w' b 0 ∧ Below w.heap.size w w' := by
  go_enter Try.func23, Try.ntmps23
  go_wp2_with fail
  go_ret
  exact ⟨_, rfl, isBig_zero _, below_alloc (Below.refl _ _) _⟩
set_option maxHeartbeats 1000000 in
theorem compFetch_calls (g o : Nat) (A : Option Addr) (c : Nat) (zs : List Int) (k : Nat) (w : World) (hc : w.cell? ⟨g, o, none⟩ = some (.slice A zs.length c)) (hr : BRow w A zs) :
    Calls Try.prog 19 #[.pointer (some ⟨g, o, none⟩), .int .i64 k] w fun e w' => ∃ b, e = .returned (.pointer (some ⟨b, 0, none⟩)) ∧ IsBig w' b (zs.getD k 0) ∧ Below w.heap.size w w' := by
  by_cases hk : k < zs.length
  · obtain ⟨ad, p, rfl, hp, hb⟩ := hr.at_ k hk
    have hz : zs.getD k 0 = zs[k]'hk := by rw [List.getD_eq_getElem?_getD, List.getElem?_eq_getElem hk]; rfl
    have HZ := Aside0.mk hz
    have HB := Aside0.mk hb
    have f1 : decide ((zs.length : Int) ≤ (k : Int)) = false := decide_eq_false (by omega)
    have f2 : decide ((zs.length : Int) ≤ k) = false := f1
    have g1 : (k : Int) < (zs.length : Int) := by omega
    clear hz hb hr
    go_enter Try.func19, Try.ntmps19
    go_wp2_with fail
    go_ret
    exact ⟨_, rfl, by rw [HZ.out]; exact HB.out, Below.refl _ _⟩
  · have hz : zs.getD k 0 = 0 := by rw [List.getD_eq_getElem?_getD, List.getElem?_eq_none (by omega)]; rfl
    have f1 : decide ((zs.length : Int) ≤ (k : Int)) = true := decide_eq_true (by omega)
    have HZ := Aside0.mk hz
    clear hz hr
    go_enter Try.func19, Try.ntmps19
    go_wp2_with (first | (go_at_call 23; (with_reducible refine (newInt_calls _).mono ?_); rintro e w1 ⟨b, rfl, hb, h1⟩; have HB := Aside0.mk hb; have H1 := Aside0.mk h1; clear hb h1))
    go_ret
    exact ⟨_, rfl, by rw [HZ.out]; exact HB.out, H1.out⟩
theorem padI_step (a b : List Int) (n k : Nat) (h : k < n) : padN cI 0 (n - k) (a.drop k) (b.drop k) = if cI (a.getD k 0) (b.getD k 0) = 0 then padN cI 0 (n - (k + 1)) (a.drop (k + 1)) (b.drop (k + 1)) else cI (a.getD k 0) (b.getD k 0) := by
  have hd : ∀ l : List Int, (l.drop k).headD 0 = l.getD k 0 := fun l => by
    rw [List.getD_eq_getElem?_getD, ← List.head?_drop]
    cases l.drop k <;> rfl
  rw [show n - k = (n - (k + 1)) + 1 by omega, padN, hd, hd, List.tail_drop, List.tail_drop]
set_option maxRecDepth 100000 in
set_option maxHeartbeats 4000000 in
/-- Two rows of numbers compared: one after the other, the shorter one filled up with 0. -/
theorem compCmp_calls (g o : Nat) (A0 A1 : Option Addr) (c0 c1 : Nat) (a b : List Int) (w : World) (hc : w.cell? ⟨g, o, none⟩ = some (.slice A0 a.length c0)) (ha : BRow w A0 a) (hb : BRow w A1 b) (hla : a.length ≤ 1000000) (hlb : b.length ≤ 1000000) :
    Calls Try.prog 17 #[.pointer (some ⟨g, o, none⟩), .slice A1 b.length c1] w fun e w' => e = .returned (.int .i64 (padL cI 0 a b)) ∧ Below w.heap.size w w' := by
  have HA := Aside0.mk ha
  have HB := Aside0.mk hb
  have HC := Aside0.mk hc
  obtain ⟨n, en⟩ : ∃ n, n = max a.length b.length := ⟨_, rfl⟩
  have EP : Aside0 (padL cI 0 a b = padN cI 0 n a b) := Aside0.mk (by unfold padL; rw [← en])
  have hn : n ≤ 1000000 := by omega
  clear ha hb
  have hb0 : Below w.heap.size w (w.alloc (.cells #[.slice A1 b.length c1] 37)) := below_alloc (Below.refl _ _) _
  have k0 := pw_cell_below hb0 hc
  have HB0 := Aside0.mk hb0
  clear hb0 hc
  by_cases hab : (a.length : Int) < (b.length : Int)
  · have EN := Aside0.mk (show n = b.length by omega)
    clear en
    go_enter Try.func17, Try.ntmps17
    go_wp2_with fail
    go_quiet (fail)
    go_wp2_with fail
    clear k0
    go_loopw [16] (fun v16 wr => ∃ k : Nat, v16 = .int .i64 k ∧ k ≤ n ∧ Below w.heap.size w wr ∧ wr.heap[w.heap.size]? = some (.cells #[.slice A1 b.length c1] 37 (0, 0)) ∧ padN cI 0 (n - k) (a.drop k) (b.drop k) = padN cI 0 n a b) (fun v16 wr => n - (intOf v16).toNat)
    case atStart => exact ⟨0, rfl, Nat.zero_le _, pw_below_drewN HB0.out _, blk_new _ _, rfl⟩
    case round =>
      obtain ⟨k, rfl, hk, hbw, hblk, hpad⟩ := hrel
      have BL := Aside0.mk hbw
      have BS := Aside0.mk hbw.size
      have BK := Aside0.mk hblk
      have LT := Aside0.mk (blk_lt hblk)
      by_cases hlt : k < n
      · have st := padI_step a b n k hlt
        rw [hpad] at st
        have fa := fun (w' : World) (hb' : Below w.heap.size w w') => compFetch_calls g o A0 c0 a k w' (pw_cell_below hb' HC.out) (HA.out.below hb')
        have fb := fun (w' : World) (hk' : w'.heap[w.heap.size]? = some (.cells #[.slice A1 b.length c1] 37 (0, 0))) (hb' : Below w.heap.size w w') => compFetch_calls w.heap.size 0 A1 c1 b k w' (blk_cell hk' 0) (HB.out.below hb')
        generalize a.getD k 0 = x at *
        generalize b.getD k 0 = y at *
        have wk : wrap64 ((k : Int) + 1) = ((k + 1 : Nat) : Int) := Pk.wr k (by omega)
        have f4 : (k : Int) < (b.length : Int) := by have := EN.out; omega
        have kn : k + 1 ≤ n := hlt
        have cm := fun b1 b2 w' (h1 : IsBig w' b1 x) (h2 : IsBig w' b2 y) => Cmp_calls x y b1 b2 w' h1 h2
        clear hpad hbw hblk hlt hn hla hlb
        generalize cI x y = c at *
        by_cases hz : c = 0
        · subst hz
          rw [if_pos rfl] at st
          have ST := Aside0.mk st
          clear st
          go_wp2_with (first | (go_at_call 19; (with_reducible refine (fa _ BL.out).mono ?_); rintro e w1 ⟨b1, rfl, q1, d1⟩; have BL1 := Aside0.mk (below_then BL.out BS.out d1); have BS1 := Aside0.mk (Nat.le_trans BS.out d1.size); have Q1 := Aside0.mk q1; have K1 := Aside0.mk ((d1.block _ LT.out).trans BK.out); clear d1 q1) | (go_at_call 19; (with_reducible refine (fb _ K1.out BL1.out).mono ?_); rintro e w2 ⟨b2, rfl, q2, d2⟩; have BL2 := Aside0.mk (below_then BL1.out BS1.out d2); have BS2 := Aside0.mk (Nat.le_trans BS1.out d2.size); have Q2 := Aside0.mk q2; have D2 := Aside0.mk d2; have K2 := Aside0.mk ((d2.block _ (blk_lt K1.out)).trans K1.out); clear d2 q2) | (go_at_call 20; (with_reducible refine (cm _ _ _ (Q1.out.below D2.out) Q2.out).mono ?_); rintro e w3 ⟨rfl, d3⟩; have BL3 := Aside0.mk (below_then BL2.out BS2.out d3.below); have K3 := Aside0.mk ((d3.below.block _ (blk_lt K2.out)).trans K2.out); clear d3))
          rw [wk]
          exact ⟨⟨k + 1, rfl, kn, BL3.out, K3.out, ST.out.symm⟩, by simp only [intOf]; omega⟩
        · rw [if_neg hz] at st
          have nz : (c != 0) = true := bne_iff_ne.2 hz
          have ST := Aside0.mk (EP.out.trans st)
          clear st hz
          go_wp2_with (first | (go_at_call 19; (with_reducible refine (fa _ BL.out).mono ?_); rintro e w1 ⟨b1, rfl, q1, d1⟩; have BL1 := Aside0.mk (below_then BL.out BS.out d1); have BS1 := Aside0.mk (Nat.le_trans BS.out d1.size); have Q1 := Aside0.mk q1; have K1 := Aside0.mk ((d1.block _ LT.out).trans BK.out); clear d1 q1) | (go_at_call 19; (with_reducible refine (fb _ K1.out BL1.out).mono ?_); rintro e w2 ⟨b2, rfl, q2, d2⟩; have BL2 := Aside0.mk (below_then BL1.out BS1.out d2); have BS2 := Aside0.mk (Nat.le_trans BS1.out d2.size); have Q2 := Aside0.mk q2; have D2 := Aside0.mk d2; have K2 := Aside0.mk ((d2.block _ (blk_lt K1.out)).trans K1.out); clear d2 q2) | (go_at_call 20; (with_reducible refine (cm _ _ _ (Q1.out.below D2.out) Q2.out).mono ?_); rintro e w3 ⟨rfl, d3⟩; have BL3 := Aside0.mk (below_then BL2.out BS2.out d3.below); have K3 := Aside0.mk ((d3.below.block _ (blk_lt K2.out)).trans K2.out); clear d3))
          go_ret
          exact ⟨by rw [ST.out]; rfl, BL3.out⟩
      · have ek : k = n := by omega
        have E0 := Aside0.mk (show padL cI 0 a b = 0 by
          rw [EP.out, ← hpad, ek, Nat.sub_self]
          rfl)
        have f4 : ¬ (k : Int) < (b.length : Int) := by have := EN.out; omega
        clear hpad hbw hblk ek hlt
        go_wp2_with fail
        go_ret
        exact ⟨by rw [E0.out]; rfl, BL.out⟩
  · have EN := Aside0.mk (show n = a.length by omega)
    clear en
    go_enter Try.func17, Try.ntmps17
    go_wp2_with fail
    go_quiet (fail)
    go_wp2_with fail
    clear k0
    go_loopw [16] (fun v16 wr => ∃ k : Nat, v16 = .int .i64 k ∧ k ≤ n ∧ Below w.heap.size w wr ∧ wr.heap[w.heap.size]? = some (.cells #[.slice A1 b.length c1] 37 (0, 0)) ∧ padN cI 0 (n - k) (a.drop k) (b.drop k) = padN cI 0 n a b) (fun v16 wr => n - (intOf v16).toNat)
    case atStart => exact ⟨0, rfl, Nat.zero_le _, pw_below_drewN HB0.out _, blk_new _ _, rfl⟩
    case round =>
      obtain ⟨k, rfl, hk, hbw, hblk, hpad⟩ := hrel
      have BL := Aside0.mk hbw
      have BS := Aside0.mk hbw.size
      have BK := Aside0.mk hblk
      have LT := Aside0.mk (blk_lt hblk)
      by_cases hlt : k < n
      · have st := padI_step a b n k hlt
        rw [hpad] at st
        have fa := fun (w' : World) (hb' : Below w.heap.size w w') => compFetch_calls g o A0 c0 a k w' (pw_cell_below hb' HC.out) (HA.out.below hb')
        have fb := fun (w' : World) (hk' : w'.heap[w.heap.size]? = some (.cells #[.slice A1 b.length c1] 37 (0, 0))) (hb' : Below w.heap.size w w') => compFetch_calls w.heap.size 0 A1 c1 b k w' (blk_cell hk' 0) (HB.out.below hb')
        generalize a.getD k 0 = x at *
        generalize b.getD k 0 = y at *
        have wk : wrap64 ((k : Int) + 1) = ((k + 1 : Nat) : Int) := Pk.wr k (by omega)
        have f4 : (k : Int) < (a.length : Int) := by have := EN.out; omega
        have kn : k + 1 ≤ n := hlt
        have cm := fun b1 b2 w' (h1 : IsBig w' b1 x) (h2 : IsBig w' b2 y) => Cmp_calls x y b1 b2 w' h1 h2
        clear hpad hbw hblk hlt hn hla hlb
        generalize cI x y = c at *
        by_cases hz : c = 0
        · subst hz
          rw [if_pos rfl] at st
          have ST := Aside0.mk st
          clear st
          go_wp2_with (first | (go_at_call 19; (with_reducible refine (fa _ BL.out).mono ?_); rintro e w1 ⟨b1, rfl, q1, d1⟩; have BL1 := Aside0.mk (below_then BL.out BS.out d1); have BS1 := Aside0.mk (Nat.le_trans BS.out d1.size); have Q1 := Aside0.mk q1; have K1 := Aside0.mk ((d1.block _ LT.out).trans BK.out); clear d1 q1) | (go_at_call 19; (with_reducible refine (fb _ K1.out BL1.out).mono ?_); rintro e w2 ⟨b2, rfl, q2, d2⟩; have BL2 := Aside0.mk (below_then BL1.out BS1.out d2); have BS2 := Aside0.mk (Nat.le_trans BS1.out d2.size); have Q2 := Aside0.mk q2; have D2 := Aside0.mk d2; have K2 := Aside0.mk ((d2.block _ (blk_lt K1.out)).trans K1.out); clear d2 q2) | (go_at_call 20; (with_reducible refine (cm _ _ _ (Q1.out.below D2.out) Q2.out).mono ?_); rintro e w3 ⟨rfl, d3⟩; have BL3 := Aside0.mk (below_then BL2.out BS2.out d3.below); have K3 := Aside0.mk ((d3.below.block _ (blk_lt K2.out)).trans K2.out); clear d3))
          rw [wk]
          exact ⟨⟨k + 1, rfl, kn, BL3.out, K3.out, ST.out.symm⟩, by simp only [intOf]; omega⟩
        · rw [if_neg hz] at st
          have nz : (c != 0) = true := bne_iff_ne.2 hz
          have ST := Aside0.mk (EP.out.trans st)
          clear st hz
          go_wp2_with (first | (go_at_call 19; (with_reducible refine (fa _ BL.out).mono ?_); rintro e w1 ⟨b1, rfl, q1, d1⟩; have BL1 := Aside0.mk (below_then BL.out BS.out d1); have BS1 := Aside0.mk (Nat.le_trans BS.out d1.size); have Q1 := Aside0.mk q1; have K1 := Aside0.mk ((d1.block _ LT.out).trans BK.out); clear d1 q1) | (go_at_call 19; (with_reducible refine (fb _ K1.out BL1.out).mono ?_); rintro e w2 ⟨b2, rfl, q2, d2⟩; have BL2 := Aside0.mk (below_then BL1.out BS1.out d2); have BS2 := Aside0.mk (Nat.le_trans BS1.out d2.size); have Q2 := Aside0.mk q2; have D2 := Aside0.mk d2; have K2 := Aside0.mk ((d2.block _ (blk_lt K1.out)).trans K1.out); clear d2 q2) | (go_at_call 20; (with_reducible refine (cm _ _ _ (Q1.out.below D2.out) Q2.out).mono ?_); rintro e w3 ⟨rfl, d3⟩; have BL3 := Aside0.mk (below_then BL2.out BS2.out d3.below); have K3 := Aside0.mk ((d3.below.block _ (blk_lt K2.out)).trans K2.out); clear d3))
          go_ret
          exact ⟨by rw [ST.out]; rfl, BL3.out⟩
      · have ek : k = n := by omega
        have E0 := Aside0.mk (show padL cI 0 a b = 0 by
          rw [EP.out, ← hpad, ek, Nat.sub_self]
          rfl)
        have f4 : ¬ (k : Int) < (a.length : Int) := by have := EN.out; omega
        clear hpad hbw hblk ek hlt
        go_wp2_with fail
        go_ret
        exact ⟨by rw [E0.out]; rfl, BL.out⟩
end Go.Proofs.Ytcaeghgbeldlaaa.Giv
