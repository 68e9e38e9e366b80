/- Several texts of this claim in one. Put together by wip/tool/merge.py. -/
import Derived.Test.YtnbpoplomdocjaaGreatDoorZC
import Derived.Test.YtnbpoplomdocjaaGreatDoorWMore
import Derived.BigQuiet
import Derived.Deep.QuietTactic
import Derived.Outline
import Derived.Test.YtnbpoplomdocjaaGreatDoorZK
import Derived.Test.YtnbpoplomdocjaaGreatDoorQCx
import Derived.Test.YtnbpoplomdocjaaGreatDoorZDB
/- Contracts by hand: rows of whole numbers of any size: what they are in memory, an element or 0, two rows compared. -/
namespace Go.Proofs.YtnbpoplomdocjaaGreatDoor.Giv
open Go.RowKit Go.Proofs.YtnbpoplomdocjaaGreatDoorW.PrintWords Go.Proofs.YtnbpoplomdocjaaGreatDoorW.PrintLast Go.Proofs.YtnbpoplomdocjaaGreatDoor.Pk Go.Proofs.YtnbpoplomdocjaaGreatDoor.Ord Go.Proofs.YtnbpoplomdocjaaGreatDoor.QM
set_option linter.unusedVariables false
set_option linter.unusedSimpArgs false

theorem cell_block {w w1 : World} (p : Addr) (h : w1.heap[p.block]? = w.heap[p.block]?) : w1.cell? p = w.cell? p := by
  unfold World.cell?
  rw [h]
theorem add_block (a : Addr) (k : Nat) : (a.add k).block = a.block := by
  unfold Addr.add
  split <;> rfl
theorem C_moved {α : Type} {enc : α → Value} {h1 : ∀ x, (enc x).oneCell' = true} {w w1 : World} {A : Option Addr} {n : Nat} {xs : List α} (h : (Kd.scalar enc h1).C w A n xs) (hm : ∀ a, A = some a → w1.heap[a.block]? = w.heap[a.block]?) : (Kd.scalar enc h1).C w1 A n xs := by
  refine ⟨h.1, h.2.1, fun h0 => ?_⟩
  obtain ⟨ad, he, hc⟩ := h.2.2 h0
  refine ⟨ad, he, fun j p hj => ?_⟩
  obtain ⟨c, c1, c2, c3⟩ := hc j p hj
  refine ⟨c, c1, c2, fun i u hu => ?_⟩
  rw [cell_block (w := w) (w1 := w1) _ (by rw [add_block]; exact hm ad he)]
  exact c3 i u hu
theorem IsBig.kept {w w1 : World} {b : Nat} {z : Int} (h : IsBig w b z) (hm : ∀ (k : Nat) (cells : Array Value) (q : TypeId), w.heap[k]? = some (Obj.cells cells q (0, 0)) → (q = 91 ∨ q = 117) → w1.heap[k]? = w.heap[k]?) : IsBig w1 b z := by
  obtain ⟨A, c, h1, h3, h4, h5, h6⟩ := h
  have hA : ∀ a, A = some a → w1.heap[a.block]? = w.heap[a.block]? := fun a e => by
    obtain ⟨arr, ha⟩ := h6 a e
    exact hm _ _ _ ha (.inr rfl)
  refine ⟨A, c, (hm _ _ _ h1 (.inl rfl)).trans h1, h3, h4, C_moved h5 hA, fun a e => ?_⟩
  obtain ⟨arr, ha⟩ := h6 a e
  exact ⟨arr, (hA a e).trans ha⟩
/-- Over a step that turns one row alone, of another type. -/
theorem IsBig.grown {w w1 : World} {b : Nat} {z : Int} (h : IsBig w b z) {row : Option Nat} (hg : w.grownBy w1 row) (ht : ∀ (k : Nat) (cells : Array Value) (q : TypeId), row = some k → w.heap[k]? = some (Obj.cells cells q (0, 0)) → q ≠ 91 ∧ q ≠ 117) : IsBig w1 b z := by
  refine h.kept (fun k cells q hk hq => hg.block k (Array.getElem?_eq_some_iff.1 hk).1 (fun e => ?_))
  have := ht k cells q e.symm hk
  rcases hq with hq | hq
  · exact this.1 hq
  · exact this.2 hq
/-- A pointer to a number's block. -/
abbrev ptrK : Kd Nat := Kd.scalar (fun b => .pointer (some ⟨b, 0, none⟩)) (fun _ => rfl)
/-- The numbers at some blocks. -/
def Bigs (w : World) (ps : List Nat) (zs : List Int) : Prop := ps.length = zs.length ∧ ∀ (j p : Nat) (z : Int), ps[j]? = some p → zs[j]? = some z → IsBig w p z
theorem Bigs.below {w w1 : World} {ps : List Nat} {zs : List Int} (h : Bigs w ps zs) (hb : Below w.heap.size w w1) : Bigs w1 ps zs := ⟨h.1, fun j p z h1 h2 => (h.2 j p z h1 h2).below hb⟩
theorem Bigs.nil (w : World) : Bigs w [] [] := ⟨rfl, fun j p z h => by simp at h⟩
theorem Bigs.snoc {w : World} {ps : List Nat} {zs : List Int} {p : Nat} {z : Int} (h : Bigs w ps zs) (hp : IsBig w p z) : Bigs w (ps ++ [p]) (zs ++ [z]) := by
  refine ⟨by simp [h.1], fun j q y h1 h2 => ?_⟩
  rcases Nat.lt_or_ge j ps.length with hj | hj
  · rw [List.getElem?_append_left hj] at h1
    rw [List.getElem?_append_left (by rw [← h.1]; exact hj)] at h2
    exact h.2 j q y h1 h2
  · rw [List.getElem?_append_right hj] at h1
    rw [List.getElem?_append_right (by rw [← h.1]; exact hj), ← h.1] at h2
    obtain ⟨e, _⟩ := List.getElem?_eq_some_iff.1 h1
    have e0 : j - ps.length = 0 := by simp at e; omega
    rw [e0] at h1 h2
    simp at h1 h2
    rw [← h1, ← h2]
    exact hp
/-- A row of numbers that is read. -/
def BRow (w : World) (A : Option Addr) (zs : List Int) : Prop := ∃ ps, ptrK.C w A zs.length ps ∧ Bigs w ps zs
theorem BRow.below {w w1 : World} {A : Option Addr} {zs : List Int} (h : BRow w A zs) (hb : Below w.heap.size w w1) : BRow w1 A zs := by
  obtain ⟨ps, h1, h2⟩ := h
  exact ⟨ps, Kd.C_below h1 hb, h2.below hb⟩
theorem BRow.nil (w : World) : BRow w none [] := ⟨[], Kd.C_nil _ _, Bigs.nil w⟩
theorem BRow.at_ {w : World} {A : Option Addr} {zs : List Int} (h : BRow w A zs) (i : Nat) (hi : i < zs.length) : ∃ ad p, A = some ad ∧ w.cell? (ad.add i) = some (.pointer (some ⟨p, 0, none⟩)) ∧ IsBig w p (zs[i]'hi) := by
  obtain ⟨ps, h1, h2⟩ := h
  have hlp : i < ps.length := by rw [h2.1]; exact hi
  obtain ⟨ad, e, c⟩ := h1.2.2 (by omega)
  obtain ⟨cs, c1, c2, c3⟩ := c i _ (List.getElem?_eq_getElem hlp)
  refine ⟨ad, ps[i]'hlp, e, ?_, h2.2 i _ _ (List.getElem?_eq_getElem hlp) (List.getElem?_eq_getElem hi)⟩
  have c2' : cs = [.pointer (some ⟨ps[i]'hlp, 0, none⟩)] := c2
  have := c3 0 (.pointer (some ⟨ps[i]'hlp, 0, none⟩)) (by rw [c2']; rfl)
  have e1 : i * (ptrK).sz + 0 = i := by
    show i * 1 + 0 = i
    omega
  rwa [e1] at this
/-- A row of numbers of the call's own. -/
def BOwn (w : World) (base : Nat) (v : Value) (zs : List Int) : Prop := ∃ ps, ptrK.R 36 w base (fun _ => True) v ps ∧ Bigs w ps zs
theorem BOwn.nil (w : World) (base : Nat) : BOwn w base (.slice none 0 0) [] := ⟨[], Kd.R_nil _ _ _ _ _, Bigs.nil w⟩
theorem BOwn.below {w w1 : World} {base : Nat} {v : Value} {zs : List Int} (h : BOwn w base v zs) (hb : Below w.heap.size w w1) : BOwn w1 base v zs := by
  obtain ⟨ps, h1, h2⟩ := h
  exact ⟨ps, Kd.R_below h1 hb, h2.below hb⟩
theorem BOwn.slice {w : World} {base : Nat} {v : Value} {zs : List Int} (h : BOwn w base v zs) : ∃ A c, v = .slice A zs.length c ∧ zs.length ≤ c ∧ BRow w A zs := by
  obtain ⟨ps, h1, h2⟩ := h
  obtain ⟨A, c, e, hc, hr⟩ := Kd.R_reads h1
  rw [h2.1] at e hc hr
  exact ⟨A, c, e, hc, ps, hr, h2⟩
theorem BOwn.lower {w : World} {base base' : Nat} {v : Value} {zs : List Int} (h : BOwn w base v zs) (hb : base' ≤ base) : BOwn w base' v zs := by
  obtain ⟨ps, h1, h2⟩ := h
  exact ⟨ps, Kd.R_lower h1 hb, h2⟩
/-- What an append of a number leaves. -/
theorem BOwn.more {w w1 : World} {base : Nat} {v v1 : Value} {ps : List Nat} {zs : List Int} {p : Nat} {z : Int} (h1 : ptrK.R 36 w base (fun _ => True) v ps) (h2 : Bigs w ps zs) (hp : IsBig w p z) (hr : ptrK.R 36 w1 base (fun _ => True) v1 (ps ++ [p])) (hg : w.grownBy w1 v.ownBlock) : BOwn w1 base v1 (zs ++ [z]) := by
  obtain ⟨inner, ho⟩ := Kd.R_own h1
  have ht : ∀ (k : Nat) (cells : Array Value) (q : TypeId), v.ownBlock = some k → w.heap[k]? = some (Obj.cells cells q (0, 0)) → q ≠ 91 ∧ q ≠ 117 := by
    intro k cells q hk hc
    obtain ⟨cells', hc'⟩ := own_typed ho k hk
    rw [hc] at hc'
    injection hc' with hc'
    injection hc' with _ hc'
    rw [hc']
    decide
  exact ⟨_, hr, Bigs.snoc ⟨h2.1, fun j q y e1 e2 => (h2.2 j q y e1 e2).grown hg ht⟩ (hp.grown hg ht)⟩
/-- Over a store into a block of another type. -/
theorem IsBig.put {w : World} {b : Nat} {z : Int} (h : IsBig w b z) {g t : Nat} {cells : Array Value} (hb : w.heap[g]? = some (Obj.cells cells t (0, 0))) (ht : t ≠ 91 ∧ t ≠ 117) (j : Nat) (u : Value) : IsBig (w.setCell ⟨g, j, none⟩ u) b z := by
  refine h.kept (fun k cells' q hk hq => Below.heap_setCell w ⟨g, j, none⟩ u k (fun e => ?_))
  have e' : k = g := e
  rw [e', hb] at hk
  injection hk with hk
  injection hk with _ hk
  rcases hq with hq | hq
  · exact ht.1 (hk.trans hq)
  · exact ht.2 (hk.trans hq)
theorem BOwn.put {w : World} {base : Nat} {v : Value} {zs : List Int} (h : BOwn w base v zs) {g t : Nat} {cells : Array Value} (hb : w.heap[g]? = some (Obj.cells cells t (0, 0))) (ht : t ≠ 91 ∧ t ≠ 117) (hp : t ≠ 36) (j : Nat) (u : Value) : BOwn (w.setCell ⟨g, j, none⟩ u) base v zs := by
  obtain ⟨ps, h1, h2⟩ := h
  refine ⟨ps, Kd.R_set h1 hb (fun q hq => ?_) j u, h2.1, fun i p z e1 e2 => (h2.2 i p z e1 e2).put hb ht j u⟩
  rcases List.mem_cons.1 hq with e | e
  · rw [e]; exact fun e2 => hp e2.symm
  · exact absurd e List.not_mem_nil
theorem wd_zero : ws (wd 0) = [] := by
  unfold wd
  rw [show (0 : Int).natAbs = 0 from rfl, Dg.dg_zero]
  rfl
theorem isBig_zero (w : World) : IsBig (w.alloc (.cells #[.bool false, .slice none 0 0] 91)) w.heap.size 0 := by
  unfold IsBig
  rw [wd_zero]
  exact ⟨none, 0, blk_new _ _, Nat.le_refl _, Nat.zero_le _, Kd.C_nil _ _, fun a e => by cases e⟩
set_option maxHeartbeats 1000000 in
theorem newInt_calls (w : World) : Calls Tryz.prog 37 #[.int .i64 0] w fun e w' => ∃ b, e = .returned (.pointer (some ⟨b, 0, none⟩)) ∧ IsBig w' b 0 ∧ Below w.heap.size w w' := by
  go_enter Tryz.func37, Tryz.ntmps37
  go_wp2_with fail
  go_ret
  exact ⟨_, rfl, isBig_zero _, below_alloc (Below.refl _ _) _⟩
set_option maxHeartbeats 1000000 in
theorem compFetch_calls (g o : Nat) (A : Option Addr) (c : Nat) (zs : List Int) (k : Nat) (w : World) (hc : w.cell? ⟨g, o, none⟩ = some (.slice A zs.length c)) (hr : BRow w A zs) :
    Calls Tryz.prog 113 #[.pointer (some ⟨g, o, none⟩), .int .i64 k] w fun e w' => ∃ b, e = .returned (.pointer (some ⟨b, 0, none⟩)) ∧ IsBig w' b (zs.getD k 0) ∧ Below w.heap.size w w' := by
  by_cases hk : k < zs.length
  · obtain ⟨ad, p, rfl, hp, hb⟩ := hr.at_ k hk
    have hz : zs.getD k 0 = zs[k]'hk := by rw [List.getD_eq_getElem?_getD, List.getElem?_eq_getElem hk]; rfl
    have HZ := Aside0.mk hz
    have HB := Aside0.mk hb
    have f1 : decide ((zs.length : Int) ≤ (k : Int)) = false := decide_eq_false (by omega)
    have f2 : decide ((zs.length : Int) ≤ k) = false := f1
    have g1 : (k : Int) < (zs.length : Int) := by omega
    clear hz hb hr
    go_enter Tryz.func113, Tryz.ntmps113
    go_wp2_with fail
    go_ret
    exact ⟨_, rfl, by rw [HZ.out]; exact HB.out, Below.refl _ _⟩
  · have hz : zs.getD k 0 = 0 := by rw [List.getD_eq_getElem?_getD, List.getElem?_eq_none (by omega)]; rfl
    have f1 : decide ((zs.length : Int) ≤ (k : Int)) = true := decide_eq_true (by omega)
    have HZ := Aside0.mk hz
    clear hz hr
    go_enter Tryz.func113, Tryz.ntmps113
    go_wp2_with (first | (go_at_call 37; (with_reducible refine (newInt_calls _).mono ?_); rintro e w1 ⟨b, rfl, hb, h1⟩; have HB := Aside0.mk hb; have H1 := Aside0.mk h1; clear hb h1))
    go_ret
    exact ⟨_, rfl, by rw [HZ.out]; exact HB.out, H1.out⟩
theorem padI_step (a b : List Int) (n k : Nat) (h : k < n) : padN cI 0 (n - k) (a.drop k) (b.drop k) = if cI (a.getD k 0) (b.getD k 0) = 0 then padN cI 0 (n - (k + 1)) (a.drop (k + 1)) (b.drop (k + 1)) else cI (a.getD k 0) (b.getD k 0) := by
  have hd : ∀ l : List Int, (l.drop k).headD 0 = l.getD k 0 := fun l => by
    rw [List.getD_eq_getElem?_getD, ← List.head?_drop]
    cases l.drop k <;> rfl
  rw [show n - k = (n - (k + 1)) + 1 by omega, padN, hd, hd, List.tail_drop, List.tail_drop]
set_option maxRecDepth 100000 in
set_option maxHeartbeats 4000000 in
/-- Two rows of numbers compared: one after the other, the shorter one filled up with 0. -/
theorem compCmp_calls (g o : Nat) (A0 A1 : Option Addr) (c0 c1 : Nat) (a b : List Int) (w : World) (hc : w.cell? ⟨g, o, none⟩ = some (.slice A0 a.length c0)) (ha : BRow w A0 a) (hb : BRow w A1 b) (hla : a.length ≤ 1000000) (hlb : b.length ≤ 1000000) :
    Calls Tryz.prog 84 #[.pointer (some ⟨g, o, none⟩), .slice A1 b.length c1] w fun e w' => e = .returned (.int .i64 (padL cI 0 a b)) ∧ Below w.heap.size w w' := by
  have HA := Aside0.mk ha
  have HB := Aside0.mk hb
  have HC := Aside0.mk hc
  obtain ⟨n, en⟩ : ∃ n, n = max a.length b.length := ⟨_, rfl⟩
  have EP : Aside0 (padL cI 0 a b = padN cI 0 n a b) := Aside0.mk (by unfold padL; rw [← en])
  have hn : n ≤ 1000000 := by omega
  clear ha hb
  have hb0 : Below w.heap.size w (w.alloc (.cells #[.slice A1 b.length c1] 45)) := below_alloc (Below.refl _ _) _
  have k0 := pw_cell_below hb0 hc
  have HB0 := Aside0.mk hb0
  clear hb0 hc
  by_cases hab : (a.length : Int) < (b.length : Int)
  · have EN := Aside0.mk (show n = b.length by omega)
    clear en
    go_enter Tryz.func84, Tryz.ntmps84
    go_wp2_with fail
    go_quiet (fail)
    go_wp2_with fail
    clear k0
    go_loopw [16] (fun v16 wr => ∃ k : Nat, v16 = .int .i64 k ∧ k ≤ n ∧ Below w.heap.size w wr ∧ wr.heap[w.heap.size]? = some (.cells #[.slice A1 b.length c1] 45 (0, 0)) ∧ padN cI 0 (n - k) (a.drop k) (b.drop k) = padN cI 0 n a b) (fun v16 wr => n - (intOf v16).toNat)
    case atStart => exact ⟨0, rfl, Nat.zero_le _, pw_below_drewN HB0.out _, blk_new _ _, rfl⟩
    case round =>
      obtain ⟨k, rfl, hk, hbw, hblk, hpad⟩ := hrel
      have BL := Aside0.mk hbw
      have BS := Aside0.mk hbw.size
      have BK := Aside0.mk hblk
      have LT := Aside0.mk (blk_lt hblk)
      by_cases hlt : k < n
      · have st := padI_step a b n k hlt
        rw [hpad] at st
        have fa := fun (w' : World) (hb' : Below w.heap.size w w') => compFetch_calls g o A0 c0 a k w' (pw_cell_below hb' HC.out) (HA.out.below hb')
        have fb := fun (w' : World) (hk' : w'.heap[w.heap.size]? = some (.cells #[.slice A1 b.length c1] 45 (0, 0))) (hb' : Below w.heap.size w w') => compFetch_calls w.heap.size 0 A1 c1 b k w' (blk_cell hk' 0) (HB.out.below hb')
        generalize a.getD k 0 = x at *
        generalize b.getD k 0 = y at *
        have wk : wrap64 ((k : Int) + 1) = ((k + 1 : Nat) : Int) := Pk.wr k (by omega)
        have f4 : (k : Int) < (b.length : Int) := by have := EN.out; omega
        have kn : k + 1 ≤ n := hlt
        have cm := fun b1 b2 w' (h1 : IsBig w' b1 x) (h2 : IsBig w' b2 y) => Cmp_calls x y b1 b2 w' h1 h2
        clear hpad hbw hblk hlt hn hla hlb
        generalize cI x y = c at *
        by_cases hz : c = 0
        · subst hz
          rw [if_pos rfl] at st
          have ST := Aside0.mk st
          clear st
          go_wp2_with (first | (go_at_call 113; (with_reducible refine (fa _ BL.out).mono ?_); rintro e w1 ⟨b1, rfl, q1, d1⟩; have BL1 := Aside0.mk (below_then BL.out BS.out d1); have BS1 := Aside0.mk (Nat.le_trans BS.out d1.size); have Q1 := Aside0.mk q1; have K1 := Aside0.mk ((d1.block _ LT.out).trans BK.out); clear d1 q1) | (go_at_call 113; (with_reducible refine (fb _ K1.out BL1.out).mono ?_); rintro e w2 ⟨b2, rfl, q2, d2⟩; have BL2 := Aside0.mk (below_then BL1.out BS1.out d2); have BS2 := Aside0.mk (Nat.le_trans BS1.out d2.size); have Q2 := Aside0.mk q2; have D2 := Aside0.mk d2; have K2 := Aside0.mk ((d2.block _ (blk_lt K1.out)).trans K1.out); clear d2 q2) | (go_at_call 78; (with_reducible refine (cm _ _ _ (Q1.out.below D2.out) Q2.out).mono ?_); rintro e w3 ⟨rfl, d3⟩; have BL3 := Aside0.mk (below_then BL2.out BS2.out d3.below); have K3 := Aside0.mk ((d3.below.block _ (blk_lt K2.out)).trans K2.out); clear d3))
          rw [wk]
          exact ⟨⟨k + 1, rfl, kn, BL3.out, K3.out, ST.out.symm⟩, by simp only [intOf]; omega⟩
        · rw [if_neg hz] at st
          have nz : (c != 0) = true := bne_iff_ne.2 hz
          have ST := Aside0.mk (EP.out.trans st)
          clear st hz
          go_wp2_with (first | (go_at_call 113; (with_reducible refine (fa _ BL.out).mono ?_); rintro e w1 ⟨b1, rfl, q1, d1⟩; have BL1 := Aside0.mk (below_then BL.out BS.out d1); have BS1 := Aside0.mk (Nat.le_trans BS.out d1.size); have Q1 := Aside0.mk q1; have K1 := Aside0.mk ((d1.block _ LT.out).trans BK.out); clear d1 q1) | (go_at_call 113; (with_reducible refine (fb _ K1.out BL1.out).mono ?_); rintro e w2 ⟨b2, rfl, q2, d2⟩; have BL2 := Aside0.mk (below_then BL1.out BS1.out d2); have BS2 := Aside0.mk (Nat.le_trans BS1.out d2.size); have Q2 := Aside0.mk q2; have D2 := Aside0.mk d2; have K2 := Aside0.mk ((d2.block _ (blk_lt K1.out)).trans K1.out); clear d2 q2) | (go_at_call 78; (with_reducible refine (cm _ _ _ (Q1.out.below D2.out) Q2.out).mono ?_); rintro e w3 ⟨rfl, d3⟩; have BL3 := Aside0.mk (below_then BL2.out BS2.out d3.below); have K3 := Aside0.mk ((d3.below.block _ (blk_lt K2.out)).trans K2.out); clear d3))
          go_ret
          exact ⟨by rw [ST.out]; rfl, BL3.out⟩
      · have ek : k = n := by omega
        have E0 := Aside0.mk (show padL cI 0 a b = 0 by
          rw [EP.out, ← hpad, ek, Nat.sub_self]
          rfl)
        have f4 : ¬ (k : Int) < (b.length : Int) := by have := EN.out; omega
        clear hpad hbw hblk ek hlt
        go_wp2_with fail
        go_ret
        exact ⟨by rw [E0.out]; rfl, BL.out⟩
  · have EN := Aside0.mk (show n = a.length by omega)
    clear en
    go_enter Tryz.func84, Tryz.ntmps84
    go_wp2_with fail
    go_quiet (fail)
    go_wp2_with fail
    clear k0
    go_loopw [16] (fun v16 wr => ∃ k : Nat, v16 = .int .i64 k ∧ k ≤ n ∧ Below w.heap.size w wr ∧ wr.heap[w.heap.size]? = some (.cells #[.slice A1 b.length c1] 45 (0, 0)) ∧ padN cI 0 (n - k) (a.drop k) (b.drop k) = padN cI 0 n a b) (fun v16 wr => n - (intOf v16).toNat)
    case atStart => exact ⟨0, rfl, Nat.zero_le _, pw_below_drewN HB0.out _, blk_new _ _, rfl⟩
    case round =>
      obtain ⟨k, rfl, hk, hbw, hblk, hpad⟩ := hrel
      have BL := Aside0.mk hbw
      have BS := Aside0.mk hbw.size
      have BK := Aside0.mk hblk
      have LT := Aside0.mk (blk_lt hblk)
      by_cases hlt : k < n
      · have st := padI_step a b n k hlt
        rw [hpad] at st
        have fa := fun (w' : World) (hb' : Below w.heap.size w w') => compFetch_calls g o A0 c0 a k w' (pw_cell_below hb' HC.out) (HA.out.below hb')
        have fb := fun (w' : World) (hk' : w'.heap[w.heap.size]? = some (.cells #[.slice A1 b.length c1] 45 (0, 0))) (hb' : Below w.heap.size w w') => compFetch_calls w.heap.size 0 A1 c1 b k w' (blk_cell hk' 0) (HB.out.below hb')
        generalize a.getD k 0 = x at *
        generalize b.getD k 0 = y at *
        have wk : wrap64 ((k : Int) + 1) = ((k + 1 : Nat) : Int) := Pk.wr k (by omega)
        have f4 : (k : Int) < (a.length : Int) := by have := EN.out; omega
        have kn : k + 1 ≤ n := hlt
        have cm := fun b1 b2 w' (h1 : IsBig w' b1 x) (h2 : IsBig w' b2 y) => Cmp_calls x y b1 b2 w' h1 h2
        clear hpad hbw hblk hlt hn hla hlb
        generalize cI x y = c at *
        by_cases hz : c = 0
        · subst hz
          rw [if_pos rfl] at st
          have ST := Aside0.mk st
          clear st
          go_wp2_with (first | (go_at_call 113; (with_reducible refine (fa _ BL.out).mono ?_); rintro e w1 ⟨b1, rfl, q1, d1⟩; have BL1 := Aside0.mk (below_then BL.out BS.out d1); have BS1 := Aside0.mk (Nat.le_trans BS.out d1.size); have Q1 := Aside0.mk q1; have K1 := Aside0.mk ((d1.block _ LT.out).trans BK.out); clear d1 q1) | (go_at_call 113; (with_reducible refine (fb _ K1.out BL1.out).mono ?_); rintro e w2 ⟨b2, rfl, q2, d2⟩; have BL2 := Aside0.mk (below_then BL1.out BS1.out d2); have BS2 := Aside0.mk (Nat.le_trans BS1.out d2.size); have Q2 := Aside0.mk q2; have D2 := Aside0.mk d2; have K2 := Aside0.mk ((d2.block _ (blk_lt K1.out)).trans K1.out); clear d2 q2) | (go_at_call 78; (with_reducible refine (cm _ _ _ (Q1.out.below D2.out) Q2.out).mono ?_); rintro e w3 ⟨rfl, d3⟩; have BL3 := Aside0.mk (below_then BL2.out BS2.out d3.below); have K3 := Aside0.mk ((d3.below.block _ (blk_lt K2.out)).trans K2.out); clear d3))
          rw [wk]
          exact ⟨⟨k + 1, rfl, kn, BL3.out, K3.out, ST.out.symm⟩, by simp only [intOf]; omega⟩
        · rw [if_neg hz] at st
          have nz : (c != 0) = true := bne_iff_ne.2 hz
          have ST := Aside0.mk (EP.out.trans st)
          clear st hz
          go_wp2_with (first | (go_at_call 113; (with_reducible refine (fa _ BL.out).mono ?_); rintro e w1 ⟨b1, rfl, q1, d1⟩; have BL1 := Aside0.mk (below_then BL.out BS.out d1); have BS1 := Aside0.mk (Nat.le_trans BS.out d1.size); have Q1 := Aside0.mk q1; have K1 := Aside0.mk ((d1.block _ LT.out).trans BK.out); clear d1 q1) | (go_at_call 113; (with_reducible refine (fb _ K1.out BL1.out).mono ?_); rintro e w2 ⟨b2, rfl, q2, d2⟩; have BL2 := Aside0.mk (below_then BL1.out BS1.out d2); have BS2 := Aside0.mk (Nat.le_trans BS1.out d2.size); have Q2 := Aside0.mk q2; have D2 := Aside0.mk d2; have K2 := Aside0.mk ((d2.block _ (blk_lt K1.out)).trans K1.out); clear d2 q2) | (go_at_call 78; (with_reducible refine (cm _ _ _ (Q1.out.below D2.out) Q2.out).mono ?_); rintro e w3 ⟨rfl, d3⟩; have BL3 := Aside0.mk (below_then BL2.out BS2.out d3.below); have K3 := Aside0.mk ((d3.below.block _ (blk_lt K2.out)).trans K2.out); clear d3))
          go_ret
          exact ⟨by rw [ST.out]; rfl, BL3.out⟩
      · have ek : k = n := by omega
        have E0 := Aside0.mk (show padL cI 0 a b = 0 by
          rw [EP.out, ← hpad, ek, Nat.sub_self]
          rfl)
        have f4 : ¬ (k : Int) < (a.length : Int) := by have := EN.out; omega
        clear hpad hbw hblk ek hlt
        go_wp2_with fail
        go_ret
        exact ⟨by rw [E0.out]; rfl, BL.out⟩
end Go.Proofs.YtnbpoplomdocjaaGreatDoor.Giv
/- Contracts by hand: versions of CRAN: their numbers, how two compare. -/
namespace Go.Proofs.YtnbpoplomdocjaaGreatDoor.Giv
open Go.RowKit Go.Proofs.YtnbpoplomdocjaaGreatDoorW.PrintWords Go.Proofs.YtnbpoplomdocjaaGreatDoorW.PrintLast Go.Proofs.YtnbpoplomdocjaaGreatDoor.Pk Go.Proofs.YtnbpoplomdocjaaGreatDoor.Ord
set_option linter.unusedVariables false
set_option linter.unusedSimpArgs false

/-- The numbers of texts; none: one is no number. -/
def numsOf : List ByteArray → Option (List Int)
  | [] => some []
  | x :: r => match Num.parse x.toList, numsOf r with
    | some z, some zs => some (z :: zs)
    | _, _ => none
theorem numsOf_snoc : ∀ (l : List ByteArray) (x : ByteArray) (zs : List Int), numsOf l = some zs → numsOf (l ++ [x]) = (Num.parse x.toList).map (fun z => zs ++ [z])
  | [], x, zs, h => by
    obtain rfl : zs = [] := by simpa [numsOf] using h.symm
    cases hp : Num.parse x.toList <;> simp [numsOf, hp]
  | y :: l, x, zs, h => by
    cases hy : Num.parse y.toList with
    | none => simp [numsOf, hy] at h
    | some z =>
      cases hl : numsOf l with
      | none => simp [numsOf, hy, hl] at h
      | some zs' =>
        have e : zs = z :: zs' := by simpa [numsOf, hy, hl] using h.symm
        subst e
        have ih := numsOf_snoc l x zs' hl
        rw [List.cons_append, numsOf, hy, ih]
        cases Num.parse x.toList <;> rfl
theorem numsOf_pre : ∀ (l m : List ByteArray), numsOf l = none → numsOf (l ++ m) = none
  | [], m, h => by simp [numsOf] at h
  | y :: l, m, h => by
    rw [List.cons_append, numsOf]
    cases hy : Num.parse y.toList with
    | none => rfl
    | some z =>
      cases hl : numsOf l with
      | none => rw [numsOf_pre l m hl]
      | some zs => simp [numsOf, hy, hl] at h
theorem numsOf_bad (ps : List ByteArray) (k : Nat) (hk : k < ps.length) (zs : List Int) (h : numsOf (ps.take k) = some zs) (hp : Num.parse (ps[k]'hk).toList = none) : numsOf ps = none := by
  have e := numsOf_snoc (ps.take k) (ps[k]'hk) zs h
  rw [hp, ← List.take_succ_eq_append_getElem hk] at e
  have := numsOf_pre _ (ps.drop (k + 1)) e
  rwa [List.take_append_drop] at this
theorem numsOf_len : ∀ (l : List ByteArray) (zs : List Int), numsOf l = some zs → zs.length = l.length
  | [], zs, h => by
    obtain rfl : zs = [] := by simpa [numsOf] using h.symm
    rfl
  | y :: l, zs, h => by
    cases hy : Num.parse y.toList with
    | none => simp [numsOf, hy] at h
    | some z =>
      cases hl : numsOf l with
      | none => simp [numsOf, hy, hl] at h
      | some zs' =>
        have e : zs = z :: zs' := by simpa [numsOf, hy, hl] using h.symm
        subst e
        simp [numsOf_len l zs' hl]
theorem ptrInfo : (Tryz.prog.info? 36).map (fun i => (i.zero, i.size, i.bytes)) = some (some (.pointer none), 1, 8) := by kernel_rfl
/-- What reading a version leaves. -/
def CrPost (w : World) (ps : List ByteArray) (e : Ending) (w' : World) : Prop :=
  Below w.heap.size w w' ∧ ((∃ zs v, numsOf ps = some zs ∧ e = .returned (.tuple #[.agg #[v], .nilIface]) ∧ BOwn w' w.heap.size v zs) ∨ (numsOf ps = none ∧ ∃ a, e = .returned (.tuple #[.agg #[.slice none 0 0], errv a])))
theorem cr_end {w : World} {tmps : Array Value} (v er : Value) {g : Nat} (hp : tmps.getD 2 undef = .pointer (some ⟨g, 0, none⟩)) (he : tmps.getD 3 undef = er) (hg : w.heap[g]? = some (.cells #[v] 47 (0, 0))) :
    (results Tryz.f21 tmps).run Tryz.prog w = .ok (.tuple #[.agg #[v], er]) w := by
  subst he
  exact results_list (rs := [.cell 2 47, .tmp 3]) rfl (by simp) (.cell g 47 #[v] (0, 0) _ hp hg Tryz.underlying47 rfl (by kernel_rfl) (.tmp .nil))
theorem comp_made (w : World) (n : Nat) (h : n ≤ 100000) (base : Nat) (hb : base ≤ w.heap.size) : BOwn (w.alloc (.cells (madeCells #[.pointer none] n) 36)) base (.slice (some ⟨w.heap.size, 0, none⟩) 0 n) [] := by
  obtain ⟨i, hi, hs⟩ := Option.map_eq_some_iff.1 ptrInfo
  have z1 : i.zero = some (.pointer none) := congrArg (fun p => p.1) hs
  have z2 : i.size = 1 := congrArg (fun p => p.2.1) hs
  have z3 : i.bytes = 8 := congrArg (fun p => p.2.2) hs
  obtain ⟨w', r, o, g⟩ := run_makeSlice_owned (P := Tryz.prog) (w := w) base 45 36 i (.pointer none) 1 Tryz.underlying45 hi z1 z2 .i64 .i64 n (by omega) (by rw [z3]; omega) (by unfold maxLen; omega) hb
  have mk := run_makeSlice (P := Tryz.prog) w 45 36 i (.pointer none) Tryz.underlying45 hi z1 .i64 .i64 (0 : Int) (n : Int) (by omega) (by omega) (by rw [z2]; omega) (by rw [z3]; omega) (by omega)
  rw [mk] at r
  rw [z2, Int.toNat_natCast, Nat.mul_one] at r
  have e : w' = w.alloc (.cells (madeCells #[.pointer none] n) 36) := by
    have := r
    simp only [Result.ok.injEq] at this
    exact this.2.symm
  rw [e] at o
  exact ⟨[], ⟨fun _ _ => trivial, [], o, Reps.none _ _⟩, Bigs.nil _⟩
set_option maxRecDepth 100000 in
set_option maxHeartbeats 4000000 in
theorem parseCran_calls (k0 : Nat) (s t : ByteArray) (ps : List ByteArray) (w : World) (hne : s.toList ≠ []) (h1 : QC.semantic_zzReplaceAll.f k0 s ⟨#[45]⟩ ⟨#[46]⟩ = some t) (h2 : QC.semantic_zzSplit.f k0 t ⟨#[46]⟩ = some ps) (hl : ps.length ≤ 100000) (hs : ∀ x ∈ ps, x.size ≤ 40000) (hL : Laid w) :
    Calls Tryz.prog 21 #[.string s] w (CrPost w ps) := by
  have e0 : s.toList.isEmpty = false := by cases h : s.toList with | nil => exact absurd h hne | cons => rfl
  have al := below_alloc (Below.refl w.heap.size w) (Obj.cells #[.slice none 0 0] 47)
  have AL := Aside0.mk al
  have K0 := Aside0.mk (blk_new w (Obj.cells #[.slice none 0 0] 47))
  have HL := Aside0.mk hL
  obtain ⟨i, hi, hs'⟩ := Option.map_eq_some_iff.1 ptrInfo
  have z1 : i.zero = some (.pointer none) := congrArg (fun p => p.1) hs'
  have z2 : i.size = 1 := congrArg (fun p => p.2.1) hs'
  have z3 : i.bytes = 8 := congrArg (fun p => p.2.2) hs'
  have mk : ∀ w' : World, (Instr.makeSlice 45 (.int .i64 0) (.int .i64 (ps.length : Int))).run Tryz.prog w' = .ok (.slice (some ⟨w'.heap.size, 0, none⟩) 0 ps.length) (w'.alloc (.cells (madeCells #[.pointer none] ps.length) 36)) := fun w' => by
    have := run_makeSlice (P := Tryz.prog) w' 45 36 i (.pointer none) Tryz.underlying45 hi z1 .i64 .i64 (0 : Int) (ps.length : Int) (by omega) (by omega) (by rw [z2]; omega) (by rw [z3]; omega) (by omega)
    rw [z2, Int.toNat_natCast, Nat.mul_one] at this
    exact this
  have c1 := fun w' => QC.semantic_zzReplaceAll.calls k0 s ⟨#[45]⟩ ⟨#[46]⟩ t w' h1
  have c2 := fun w' => QC.semantic_zzSplit.calls k0 t ⟨#[46]⟩ ps w' h2
  clear al h1 h2 hi z1 z2 z3 hs' hL
  go_enter Tryz.func21, Tryz.ntmps21
  go_wp2_with (first | (go_at_call 46; (with_reducible refine (c1 _).mono ?_); rintro e w1 ⟨rfl, d1⟩; have D1 := Aside0.mk (below_then AL.out AL.out.size d1); have K1 := Aside0.mk ((d1.block _ (blk_lt K0.out)).trans K0.out); clear d1) | (go_at_call 45; (with_reducible refine (c2 _).mono ?_); rintro e w2 ⟨v2, rfl, r2, d2⟩; obtain ⟨A, c, rfl, hc, hr⟩ := Kd.R_reads r2; have D2 := Aside0.mk (below_then D1.out D1.out.size d2); have K2 := Aside0.mk ((d2.block _ (blk_lt K1.out)).trans K1.out); have HR := Aside0.mk hr; have HC := Aside0.mk hc; clear d2 r2 hr hc))
  have W2 := Aside0.mk (show w.heap.size ≤ w2.heap.size from D2.out.size)
  go_loopw [5, 21] (fun v5 v21 wr => ∃ (k : Nat) (zs : List Int), v21 = .int .i64 k ∧ k ≤ ps.length ∧ numsOf (ps.take k) = some zs ∧ BOwn wr w2.heap.size v5 zs ∧ Below w2.heap.size w2 wr) (fun v5 v21 wr => ps.length - (intOf v21).toNat)
  case atStart => exact ⟨0, [], rfl, Nat.zero_le _, rfl, comp_made w2 ps.length hl _ (Nat.le_refl _), below_alloc (Below.refl _ _) _⟩
  case round =>
    obtain ⟨k, zs, rfl, hk, hz, hbo, hbw⟩ := hrel
    have HB := Aside0.mk hbo
    have BL := Aside0.mk hbw
    have BS := Aside0.mk hbw.size
    have BW := Aside0.mk (D2.out.trans (hbw.mono W2.out))
    have KR := Aside0.mk ((hbw.block _ (blk_lt K2.out)).trans K2.out)
    have HZ := Aside0.mk hz
    have lz := numsOf_len _ _ hz
    rw [List.length_take, Nat.min_eq_left hk] at lz
    by_cases hlt : k < ps.length
    · obtain ⟨ad, rfl, cx0⟩ := Kd.at_string HR.out (k : Int) (by omega) (by omega)
      rw [rdOf_nat _ _ k hlt, Int.toNat_natCast] at cx0
      have hsx := hs _ (List.getElem_mem hlt)
      have ns := numsOf_snoc (ps.take k) (ps[k]'hlt) zs hz
      rw [← List.take_succ_eq_append_getElem hlt] at ns
      have nbad := numsOf_bad ps k hlt zs hz
      have cx := pw_cell_below hbw cx0
      generalize ps[k]'hlt = x at *
      have wk : wrap64 ((k : Int) + 1) = ((k + 1 : Nat) : Int) := Pk.wr k (by omega)
      have f4 : (k : Int) < (ps.length : Int) := Int.ofNat_lt.2 hlt
      have KL := Aside0.mk hlt
      have LIM := Aside0.mk (show (zs.length + 1) * 8 ≤ 140737488355328 by omega)
      have LW := HL.out.below BW.out
      cases hp : Num.parse x.toList with
      | some z =>
        have ss := set_some (new_calls x wr hsx LW) hp
        rw [hp] at ns
        have NS := Aside0.mk (show numsOf (ps.take (k + 1)) = some (zs ++ [z]) from ns)
        clear hp ns nbad hz hbo hbw hlt hsx LW cx0 hk lz
        go_wp2_with (first | (go_at_call 47; (with_reducible refine ss.mono ?_); rintro e w3 ⟨rfl, q1, q2⟩; have B3 := (below_alloc (Below.refl wr.heap.size wr) (Obj.cells #[.bool false, .slice none 0 0] 91)).trans q1; have BL3 := Aside0.mk (below_then BL.out BS.out B3); have BS3 := Aside0.mk (Nat.le_trans BS.out B3.size); obtain ⟨qs, hq1, hq2⟩ := HB.out.below B3; have HQ1 := Aside0.mk hq1; have HQ2 := Aside0.mk hq2; have Q2 := Aside0.mk q2; have QL := Aside0.mk (show (qs.length + 1) * 8 ≤ 140737488355328 by rw [hq2.1]; exact LIM.out); clear q1 q2 B3 hq1 hq2) | ((with_reducible refine gate_builtin (b := .append) (xs := #[.tmp 35, .tmp 37]) rfl ?_); at_builtin; refine Kd.R_append ptrK (w0 := w2) w2.heap.size rfl (.tmp 35) (.tmp 37) 45 36 (.pointer none) 8 rfl Tryz.underlying45 ptrInfo rfl (by decide) (by omega) u5 qs wr.heap.size [.pointer (some ⟨wr.heap.size, 0, none⟩)] (fun _ => True) (fun _ => False) rfl rfl ?aP (fun _ hk => hk.elim) ?aF ?aO ?aB ?aS ?aL ?_; (case aP => exact rfl); (case aF => exact (fun _ _ => trivial)); (case aO => exact HQ1.out); (case aB => exact BL3.out); (case aS => exact BS3.out); (case aL => exact QL.out); intro v5 w5 ho hb hg hat; have HO := Aside0.mk (BOwn.more HQ1.out HQ2.out Q2.out ho hg); have BL5 := Aside0.mk hb; clear ho hb hg hat))
        refine ⟨⟨k + 1, _, by simp, KL.out, NS.out, HO.out, BL5.out⟩, by simp only [intOf]; have := KL.out; omega⟩
      | none =>
        have ss := set_none (new_calls x wr hsx LW) hp
        have NB := Aside0.mk (nbad hp)
        obtain ⟨ai, hi⟩ := HL.out.inv
        have gi := fun (w' : World) (h : Below w.heap.size w w') => pw_cell_below h hi
        clear hp ns nbad hz hbo hbw hlt hsx LW cx0 hk lz hi
        go_wp2_with (first | (go_at_call 47; (with_reducible refine ss.mono ?_); rintro e w3 ⟨rfl, q1⟩; have B3 := (below_alloc (Below.refl wr.heap.size wr) (Obj.cells #[.bool false, .slice none 0 0] 91)).trans q1; have BW3 := Aside0.mk (below_then BW.out BW.out.size B3); have pi := gi _ BW3.out; have pi2 := gi _ (BW3.out.setCell (p := ⟨w.heap.size, 0, none⟩) (Nat.le_refl _) (.slice none 0 0)); have k3 := (B3.block _ (blk_lt KR.out)).trans KR.out; have p0 := blk_cell k3 0; have f0 := Lib.frozen_of_heap k3 0; have K3 := Aside0.mk k3; clear q1 B3 k3))
        go_region
        all_goals
          go_wp2_with fail
          exact bodyPost_ret (cr_end (.slice none 0 0) (errv ai) rfl rfl (blk_put K3.out 0 _ rfl)) rfl ⟨Below.drew (BW3.out.setCell (Nat.le_refl _) _), .inr ⟨NB.out, _, rfl⟩⟩
    · have ek : k = ps.length := by omega
      rw [ek, List.take_length] at hz
      have HZ2 := Aside0.mk hz
      obtain ⟨A5, c5, rfl, _, _⟩ := hbo.slice
      have kr := KR.out
      have p0 := blk_cell kr 0
      have f0 := Lib.frozen_of_heap kr 0
      have f4 : ¬ (k : Int) < (ps.length : Int) := by omega
      clear hz hbw hlt ek hk lz kr hbo
      go_wp2_with fail
      exact bodyPost_ret (cr_end (.slice A5 zs.length c5) .nilIface rfl rfl (blk_put KR.out 0 _ rfl)) rfl ⟨BW.out.setCell (Nat.le_refl _) _, .inl ⟨zs, _, HZ2.out, rfl, (HB.out.put KR.out (by decide) (by decide) 0 _).lower W2.out⟩⟩
set_option maxRecDepth 100000 in
theorem parseCran_nil (w : World) :
    Calls Tryz.prog 21 #[.string ⟨#[]⟩] w fun e w' => e = .returned (.tuple #[.agg #[.slice none 0 0], .nilIface]) ∧ Below w.heap.size w w' := by
  have b1 := below_alloc (Below.refl w.heap.size w) (Obj.cells #[.slice none 0 0] 47)
  have hg := blk_new w (Obj.cells #[.slice none 0 0] 47)
  have B1 := Aside0.mk b1
  have HG := Aside0.mk hg
  clear b1 hg
  go_enter Tryz.func21, Tryz.ntmps21
  go_wp2_with fail
  exact bodyPost_ret (cr_end (.slice none 0 0) .nilIface rfl rfl HG.out) rfl ⟨rfl, B1.out⟩
/-- The numbers of a version; none within: it is none. -/
def crP (k : Nat) (s : ByteArray) : Option (Option (List Int)) := if s.toList = [] then some (some []) else ((QC.semantic_zzReplaceAll.f k s ⟨#[45]⟩ ⟨#[46]⟩).bind fun t => ((QC.semantic_zzSplit.f k t ⟨#[46]⟩).bind fun ps => (if fit ps = true then some (numsOf ps) else none)))
theorem crP_mono : ∀ s k, LeO (crP k s) (crP (k + 1) s) := by
  intro s k
  unfold crP
  split
  · exact LeO.refl _
  · exact LeO.bind (QC.semantic_zzReplaceAll.mono _ _ _ _) (fun _ => LeO.bind (QC.semantic_zzSplit.mono _ _ _) (fun _ => LeO.refl _))
theorem crP_len {k : Nat} {s : ByteArray} {zs : List Int} (h : crP k s = some (some zs)) : zs.length ≤ 100000 := by
  unfold crP at h
  split at h
  · obtain rfl : zs = [] := by simpa using h.symm
    simp
  · obtain ⟨t, _, h⟩ := Option.bind_eq_some_iff.1 h
    obtain ⟨ps, _, h⟩ := Option.bind_eq_some_iff.1 h
    split at h
    · next hf =>
      rw [numsOf_len _ _ (Option.some.inj h)]
      exact fit_len hf
    · exact absurd h (by simp)
theorem fit_all {l : List ByteArray} (h : fit l = true) : ∀ x ∈ l, x.size ≤ 40000 := by
  intro x hx
  obtain ⟨i, hi, rfl⟩ := List.mem_iff_getElem.1 hx
  have := fit_at h i (z := ⟨#[48]⟩) z48
  rw [List.getD_eq_getElem?_getD, List.getElem?_eq_getElem hi] at this
  exact this
theorem parse_ok (k : Nat) (s : ByteArray) (zs : List Int) (w : World) (h : crP k s = some (some zs)) (hL : Laid w) :
    Calls Tryz.prog 21 #[.string s] w fun e w' => ∃ A c, e = .returned (.tuple #[.agg #[.slice A zs.length c], .nilIface]) ∧ BRow w' A zs ∧ Below w.heap.size w w' := by
  unfold crP at h
  split at h
  · next he =>
    obtain rfl : zs = [] := by simpa using h.symm
    obtain rfl : s = ⟨#[]⟩ := bs_eq he
    refine (parseCran_nil w).mono ?_
    rintro e w' ⟨rfl, hb⟩
    exact ⟨none, 0, rfl, BRow.nil _, hb⟩
  · next he =>
    obtain ⟨t, h1, h⟩ := Option.bind_eq_some_iff.1 h
    obtain ⟨ps, h2, h⟩ := Option.bind_eq_some_iff.1 h
    split at h
    · next hf =>
      have h3 := Option.some.inj h
      refine (parseCran_calls k s t ps w he h1 h2 (fit_len hf) (fit_all hf) hL).mono ?_
      rintro e w' ⟨hb, ⟨zs', v, e1, rfl, ho⟩ | ⟨e1, _⟩⟩
      · rw [h3] at e1
        obtain rfl := Option.some.inj e1
        obtain ⟨A, c, rfl, _, hr⟩ := ho.slice
        exact ⟨A, c, rfl, hr, hb⟩
      · rw [h3] at e1
        exact absurd e1 (by simp)
    · exact absurd h (by simp)
theorem parse_err (k : Nat) (s : ByteArray) (w : World) (h : crP k s = some none) (hL : Laid w) :
    Calls Tryz.prog 21 #[.string s] w fun e w' => ∃ a, e = .returned (.tuple #[.agg #[.slice none 0 0], errv a]) ∧ Below w.heap.size w w' := by
  unfold crP at h
  split at h
  · simp at h
  · next he =>
    obtain ⟨t, h1, h⟩ := Option.bind_eq_some_iff.1 h
    obtain ⟨ps, h2, h⟩ := Option.bind_eq_some_iff.1 h
    split at h
    · next hf =>
      have h3 := Option.some.inj h
      refine (parseCran_calls k s t ps w he h1 h2 (fit_len hf) (fit_all hf) hL).mono ?_
      rintro e w' ⟨hb, ⟨zs', v, e1, _⟩ | ⟨_, a, rfl⟩⟩
      · rw [h3] at e1
        exact absurd e1 (by simp)
      · exact ⟨a, rfl, hb⟩
    · exact absurd h (by simp)
/-- Two versions compared: by their numbers, then by how many there are. -/
def crC (zs ys : List Int) : Int := if padL cI 0 zs ys = 0 then cI zs.length ys.length else padL cI 0 zs ys
set_option maxRecDepth 100000 in
set_option maxHeartbeats 2000000 in
theorem crCompare_calls (A1 A2 : Option Addr) (c1 c2 : Nat) (zs ys : List Int) (w : World) (h1 : BRow w A1 zs) (h2 : BRow w A2 ys) (l1 : zs.length ≤ 100000) (l2 : ys.length ≤ 100000) :
    Calls Tryz.prog 48 #[.agg #[.slice A1 zs.length c1], .agg #[.slice A2 ys.length c2]] w fun e w' => e = .returned (.int .i64 (crC zs ys)) ∧ Below w.heap.size w w' := by
  have b1 := below_alloc (Below.refl w.heap.size w) (Obj.cells #[.slice A1 zs.length c1] 47)
  have b2 := below_alloc b1 (Obj.cells #[.slice A2 ys.length c2] 47)
  have B2 := Aside0.mk b2
  have k0 := blk_new w (Obj.cells #[.slice A1 zs.length c1] 47)
  have k1 : ((w.alloc (Obj.cells #[.slice A1 zs.length c1] 47)).alloc (Obj.cells #[.slice A2 ys.length c2] 47)).heap[w.heap.size]? = some (Obj.cells #[.slice A1 zs.length c1] 47) := blk_alloc k0 _
  have m1 : ((w.alloc (Obj.cells #[.slice A1 zs.length c1] 47)).alloc (Obj.cells #[.slice A2 ys.length c2] 47)).heap[w.heap.size + 1]? = some (Obj.cells #[.slice A2 ys.length c2] 47) := by
    have := blk_new (w.alloc (Obj.cells #[.slice A1 zs.length c1] 47)) (Obj.cells #[.slice A2 ys.length c2] 47)
    simpa using this
  have cm := compCmp_calls w.heap.size 0 A1 A2 c1 c2 zs ys _ (blk_cell k1 0) (h1.below b2) (h2.below b2) (by omega) (by omega)
  have K1 := Aside0.mk k1
  have M1 := Aside0.mk m1
  have CE := Aside0.mk (show crC zs ys = if padL cI 0 zs ys = 0 then cI zs.length ys.length else padL cI 0 zs ys from rfl)
  clear b1 b2 k0 k1 m1 h1 h2 l1 l2
  generalize padL cI 0 zs ys = c at *
  generalize crC zs ys = r at *
  by_cases hc : c = 0
  · subst hc
    have CE2 := Aside0.mk (show r = cI zs.length ys.length by rw [CE.out, if_pos rfl])
    clear CE
    rcases Nat.lt_trichotomy zs.length ys.length with hl | hl | hl
    · have RV := Aside0.mk (show r = -1 by rw [CE2.out]; exact cI_neg.2 (by omega))
      have f1 : ((zs.length : Int) == (ys.length : Int)) = false := beq_eq_false_iff_ne.2 (by omega)
      have f2 : decide ((ys.length : Int) < (zs.length : Int)) = false := decide_eq_false (by omega)
      have f3 : ¬ ((zs.length : Int) > (ys.length : Int)) := by omega
      clear hl CE2
      go_enter Tryz.func48, Tryz.ntmps48
      go_wp2_with (first | (go_at_call 84; (with_reducible refine cm.mono ?_); rintro e w1 ⟨rfl, d1⟩; have D1 := Aside0.mk (below_then B2.out B2.out.size d1); have q0 := blk_cell ((d1.block _ (blk_lt K1.out)).trans K1.out) 0; have q1 := blk_cell ((d1.block _ (blk_lt M1.out)).trans M1.out) 0; clear d1))
      go_ret
      exact ⟨by rw [RV.out]; rfl, D1.out⟩
    · have RV := Aside0.mk (show r = 0 by rw [CE2.out]; exact cI_zero.2 (by omega))
      have f1 : ((zs.length : Int) == (ys.length : Int)) = true := beq_iff_eq.2 (by omega)
      clear hl CE2
      go_enter Tryz.func48, Tryz.ntmps48
      go_wp2_with (first | (go_at_call 84; (with_reducible refine cm.mono ?_); rintro e w1 ⟨rfl, d1⟩; have D1 := Aside0.mk (below_then B2.out B2.out.size d1); have q0 := blk_cell ((d1.block _ (blk_lt K1.out)).trans K1.out) 0; have q1 := blk_cell ((d1.block _ (blk_lt M1.out)).trans M1.out) 0; clear d1))
      go_ret
      exact ⟨by rw [RV.out]; rfl, D1.out⟩
    · have RV := Aside0.mk (show r = 1 by rw [CE2.out]; exact cI_pos.2 (by omega))
      have f1 : ((zs.length : Int) == (ys.length : Int)) = false := beq_eq_false_iff_ne.2 (by omega)
      have f2 : decide ((ys.length : Int) < (zs.length : Int)) = true := decide_eq_true (by omega)
      have f3 : ((zs.length : Int) > (ys.length : Int)) := by omega
      clear hl CE2
      go_enter Tryz.func48, Tryz.ntmps48
      go_wp2_with (first | (go_at_call 84; (with_reducible refine cm.mono ?_); rintro e w1 ⟨rfl, d1⟩; have D1 := Aside0.mk (below_then B2.out B2.out.size d1); have q0 := blk_cell ((d1.block _ (blk_lt K1.out)).trans K1.out) 0; have q1 := blk_cell ((d1.block _ (blk_lt M1.out)).trans M1.out) 0; clear d1))
      go_ret
      exact ⟨by rw [RV.out]; rfl, D1.out⟩
  · have RV := Aside0.mk (show r = c by rw [CE.out, if_neg hc])
    have nz : (c != 0) = true := bne_iff_ne.2 hc
    clear CE hc
    go_enter Tryz.func48, Tryz.ntmps48
    go_wp2_with (first | (go_at_call 84; (with_reducible refine cm.mono ?_); rintro e w1 ⟨rfl, d1⟩; have D1 := Aside0.mk (below_then B2.out B2.out.size d1); have q0 := blk_cell ((d1.block _ (blk_lt K1.out)).trans K1.out) 0; have q1 := blk_cell ((d1.block _ (blk_lt M1.out)).trans M1.out) 0; clear d1))
    go_ret
    exact ⟨by rw [RV.out]; rfl, D1.out⟩
set_option maxHeartbeats 1000000 in
theorem crIface_calls (A1 A2 : Option Addr) (n1 n2 c1 c2 : Nat) (r : Int) (w : World) (c : ∀ w', Below w.heap.size w w' → Calls Tryz.prog 48 #[.agg #[.slice A1 n1 c1], .agg #[.slice A2 n2 c2]] w' fun e w'' => e = .returned (.int .i64 r) ∧ Below w'.heap.size w' w'') :
    Calls Tryz.prog 22 #[.agg #[.slice A1 n1 c1], .iface 47 (.agg #[.slice A2 n2 c2])] w fun e w' => e = .returned (.tuple #[.int .i64 r, .nilIface]) ∧ Below w.heap.size w w' := by
  have hta := fun v w => run_assert_is Tryz.underlying47 30 v w
  have h1 := (Below.refl w.heap.size w).alloc (Nat.le_refl _) (Obj.cells #[Value.slice A1 n1 c1] 47)
  have h2 := h1.alloc h1.size (Obj.cells #[Value.slice A2 n2 c2] 47)
  have c' := c _ h2
  have H2 := Aside0.mk h2
  clear h1 h2 c
  go_enter Tryz.func22, Tryz.ntmps22
  go_wp2_with (first | (go_at_call 48; refine c'.mono ?_; rintro e w1 ⟨rfl, hb1⟩))
  go_ret2
  exact ⟨rfl, H2.out.trans (hb1.mono H2.out.size)⟩
/-- What the thin package answers of two versions. -/
def crR (k : Nat) (a b : ByteArray) : Option (Int × Bool) := (crP k a).bind fun x => ((crP k b).bind fun y => (match x, y with | some zs, some ys => some (crC zs ys, true) | _, _ => some (0, false)))
theorem crR_mono : ∀ a b k, LeO (crR k a b) (crR (k + 1) a b) := by
  intro a b k
  unfold crR
  exact LeO.bind (crP_mono _ _) (fun _ => LeO.bind (crP_mono _ _) (fun _ => LeO.refl _))
set_option maxRecDepth 100000 in
set_option maxHeartbeats 2000000 in
theorem ic_aerr (k : Nat) (a b : ByteArray) (w : World) (ha : crP k a = some none) (hL : Laid w) :
    Calls Tryz.prog 9 #[.string a, .string b] w fun e w' => e = .returned (.tuple #[.int .i64 0, .bool false]) ∧ Below w.heap.size w w' := by
  have p1 := parse_err k a w ha hL
  clear hL ha
  go_enter Tryz.func9, Tryz.ntmps9
  go_wp2_with (first | (go_at_call 21; (with_reducible refine p1.mono ?_); rintro e w1 ⟨a, rfl, d1⟩; have D1 := Aside0.mk d1; clear d1))
  go_ret2
  exact ⟨rfl, below_alloc D1.out _⟩
set_option maxRecDepth 100000 in
set_option maxHeartbeats 2000000 in
theorem ic_berr (k : Nat) (a b : ByteArray) (zs : List Int) (w : World) (ha : crP k a = some (some zs)) (hb : crP k b = some none) (hL : Laid w) :
    Calls Tryz.prog 9 #[.string a, .string b] w fun e w' => e = .returned (.tuple #[.int .i64 0, .bool false]) ∧ Below w.heap.size w w' := by
  have p1 := parse_ok k a zs w ha hL
  have p2 := fun (w' : World) (h : Below w.heap.size w w') => parse_err k b w' hb (hL.below h)
  clear hL ha hb
  go_enter Tryz.func9, Tryz.ntmps9
  go_wp2_with (first | (go_at_call 21; (with_reducible refine p1.mono ?_); rintro e w1 ⟨A1, c1, rfl, r1, d1⟩; have D1 := Aside0.mk d1; clear d1 r1) | (go_at_call 21; (with_reducible refine (p2 _ (below_alloc D1.out _)).mono ?_); rintro e w2 ⟨a, rfl, d2⟩; have D2 := Aside0.mk (below_then (below_alloc D1.out _) (below_alloc D1.out _).size d2); clear d2))
  go_ret2
  exact ⟨rfl, below_alloc D2.out _⟩
set_option maxRecDepth 100000 in
set_option maxHeartbeats 2000000 in
theorem ic_ok (k : Nat) (a b : ByteArray) (zs ys : List Int) (w : World) (ha : crP k a = some (some zs)) (hb : crP k b = some (some ys)) (hL : Laid w) :
    Calls Tryz.prog 9 #[.string a, .string b] w fun e w' => e = .returned (.tuple #[.int .i64 (crC zs ys), .bool true]) ∧ Below w.heap.size w w' := by
  have p1 := parse_ok k a zs w ha hL
  have p2 := fun (w' : World) (h : Below w.heap.size w w') => parse_ok k b ys w' hb (hL.below h)
  have l1 := crP_len ha
  have l2 := crP_len hb
  have ci := fun (w' : World) (A1 A2 : Option Addr) (c1 c2 : Nat) (h1 : BRow w' A1 zs) (h2 : BRow w' A2 ys) => crIface_calls A1 A2 zs.length ys.length c1 c2 (crC zs ys) w' (fun w3 hb3 => crCompare_calls A1 A2 c1 c2 zs ys w3 (h1.below hb3) (h2.below hb3) l1 l2)
  have hmi : ∀ x w, (Instr.makeInterface 47 x).run Tryz.prog w = .ok (.iface 47 x) w := fun x w => run_makeInterface w 47 x (by kernel_rfl)
  have hnn := fun w => run_nil_nil Tryz.underlying33 w
  clear hL ha hb l1 l2
  generalize crC zs ys = r at *
  go_enter Tryz.func9, Tryz.ntmps9
  go_wp2_with (first | (go_at_call 21; (with_reducible refine p1.mono ?_); rintro e w1 ⟨A1, c1, rfl, r1, d1⟩; have D1 := Aside0.mk d1; have K1 := Aside0.mk (blk_new w1 (Obj.cells #[.slice A1 zs.length c1] 47)); have R1 := Aside0.mk r1; clear d1 r1) | (go_at_call 21; (with_reducible refine (p2 _ (below_alloc D1.out _)).mono ?_); rintro e w2 ⟨A2, c2, rfl, r2, d2⟩; have D2 := Aside0.mk (below_then (below_alloc D1.out _) (below_alloc D1.out _).size d2); have q0 := blk_cell ((d2.block _ (blk_lt K1.out)).trans K1.out) 0; have lt0 := blk_lt ((d2.block _ (blk_lt K1.out)).trans K1.out); have R2 := Aside0.mk r2; have R12 := Aside0.mk ((R1.out.below (below_alloc (Below.refl _ _) (Obj.cells #[.slice A1 zs.length c1] 47))).below d2); clear d2 r2) | (go_at_call 22; (with_reducible refine (ci _ _ _ _ _ (R12.out.below (below_alloc (Below.refl _ _) _)) (R2.out.below (below_alloc (Below.refl _ _) _))).mono ?_); rintro e w3 ⟨rfl, d3⟩; have D3 := Aside0.mk (below_then (below_alloc D2.out _) (below_alloc D2.out _).size d3); clear d3))
  go_quiet (fail)
  go_wp2_with fail
  go_ret2
  exact ⟨rfl, bel_drewN D3.out _⟩
def impl_CRANCompare.f (k : Nat) (a0 a1 : ByteArray) : Option (Int × Bool) := crR k a0 a1
theorem impl_CRANCompare.mono : ∀ a0 a1 k, LeO (impl_CRANCompare.f k a0 a1) (impl_CRANCompare.f (k + 1) a0 a1) := crR_mono
def impl_CRANCompareText.f (k : Nat) (a0 a1 : ByteArray) : Option (Int × Bool) := crR k a0 a1
theorem impl_CRANCompareText.mono : ∀ a0 a1 k, LeO (impl_CRANCompareText.f k a0 a1) (impl_CRANCompareText.f (k + 1) a0 a1) := crR_mono
theorem impl_CRANCompare.calls (k : Nat) (a0 a1 : ByteArray) (r1 : Int) (r2 : Bool) (w : World) (h : impl_CRANCompare.f k a0 a1 = some (r1, r2)) (hL : Laid w) :
    Calls Tryz.prog 9 #[.string a0, .string a1] w fun e w' => e = .returned (.tuple #[.int .i64 r1, .bool r2]) ∧ Below w.heap.size w w' := by
  have h : crR k a0 a1 = some (r1, r2) := h
  unfold crR at h
  obtain ⟨x, hx, h⟩ := Option.bind_eq_some_iff.1 h
  obtain ⟨y, hy, h⟩ := Option.bind_eq_some_iff.1 h
  cases x with
  | none =>
    have h := Option.some.inj h
    obtain ⟨rfl, rfl⟩ := Prod.mk.inj h
    exact ic_aerr k a0 a1 w hx hL
  | some zs =>
    cases y with
    | none =>
      have h := Option.some.inj h
      obtain ⟨rfl, rfl⟩ := Prod.mk.inj h
      exact ic_berr k a0 a1 zs w hx hy hL
    | some ys =>
      have h := Option.some.inj h
      obtain ⟨rfl, rfl⟩ := Prod.mk.inj h
      exact ic_ok k a0 a1 zs ys w hx hy hL
end Go.Proofs.YtnbpoplomdocjaaGreatDoor.Giv
/- What the program reads of any text as a CRAN version: hyphens turned to points, then cut at points. -/
namespace Go.Proofs.YtnbpoplomdocjaaGreatDoor.QC
open Go.RowKit Go.Proofs.YtnbpoplomdocjaaGreatDoorW.PrintWords Go.Proofs.YtnbpoplomdocjaaGreatDoorW.PrintLast Go.Proofs.YtnbpoplomdocjaaGreatDoor.Pk Go.Proofs.YtnbpoplomdocjaaGreatDoor.Giv Go.Proofs.YtnbpoplomdocjaaGreatDoor.Ord
set_option linter.unusedVariables false

/-- A hyphen turned into a point. -/
def hy (x : UInt8) : UInt8 := if x = 45 then 46 else x
def rb (l : List UInt8) : List Int := l.map (fun c => (c.toNat : Int))
theorem rb_len (l : List UInt8) : (rb l).length = l.length := by simp [rb]
theorem rb_app (l m : List UInt8) : rb l ++ rb m = rb (l ++ m) := by simp [rb]
theorem rb_of (l : List UInt8) : bytesOf (bs l) = rb l := by simp [bytesOf, rb, bs]
theorem rb_str (l : List UInt8) : strOfNums (rb l) = bs l := by
  unfold strOfNums bs rb
  rw [List.map_map]
  congr 2
  conv => rhs; rw [← List.map_id l]
  apply List.map_congr_left
  intro c _
  simp
theorem hy_not : ∀ l : List UInt8, (l.any (fun x => x == 45)) = false → l.map hy = l
  | [], _ => rfl
  | x :: l, h => by
    rw [List.any_cons, Bool.or_eq_false_iff] at h
    rw [List.map_cons, hy_not l h.2]
    have : hy x = x := by
      unfold hy
      rw [if_neg (by simpa using h.1)]
    rw [this]
theorem cut_split (l : List UInt8) (h : (l.any (fun x => x == 45)) = true) : l = Cut.upTo 45 l ++ 45 :: l.drop ((Cut.upTo 45 l).length + 1) := by
  induction l with
  | nil => simp at h
  | cons x r ih =>
    unfold Cut.upTo at ih ⊢
    by_cases hx : x = 45
    · subst hx
      rw [List.takeWhile_cons_of_neg (by simp)]
      rfl
    · rw [List.takeWhile_cons_of_pos (by simp [hx])]
      rw [List.any_cons] at h
      have hr : (r.any fun x => x == 45) = true := by simpa [hx] using h
      have e := ih hr
      rw [List.cons_append, List.length_cons, List.drop_succ_cons, ← e]
theorem upTo_no (l : List UInt8) : ((Cut.upTo 45 l).any (fun x => x == 45)) = false := by
  unfold Cut.upTo
  rw [List.any_eq_false]
  intro x hx
  have := List.all_eq_true.1 (List.all_takeWhile (p := fun x => !x == (45 : UInt8)) (l := l)) x hx
  simpa using this
theorem ra_loop (n : Nat) : ∀ (l acc : List UInt8), l.length ≤ n → acc.length + l.length ≤ 40000 → Ev (fun k => semantic_zzReplaceAll.l1 k (bs l) (bs [45]) (bs [46]) (rb acc)) (bs (acc ++ l.map hy)) := by
  induction n with
  | zero =>
    intro l acc hl ha
    have e : l = [] := List.length_eq_zero_iff.1 (by omega)
    subst e
    refine Ev.step (fun k => by rw [semantic_zzReplaceAll.l1]) ?_
    refine (sp_idx [] 45 (by simp)).bind ?_
    refine ev_pos (by simp [placeOf]) (ev_pos (by rw [rb_len, bs_size]; simp; omega) ?_)
    rw [rb_of, rb_app, rb_str]
    exact Ev.now _
  | succ n ih =>
    intro l acc hl ha
    refine Ev.step (fun k => by rw [semantic_zzReplaceAll.l1]) ?_
    refine (sp_idx l 45 (by omega)).bind ?_
    by_cases h : (l.any (fun x => x == 45)) = true
    · obtain ⟨_, e2, e3⟩ := Cut.cutAt_yes 45 l h
      have sp := cut_split l h
      have un := hy_not _ (upTo_no l)
      have fin : acc ++ l.map hy = (acc ++ Cut.upTo 45 l ++ [46]) ++ (l.drop ((Cut.upTo 45 l).length + 1)).map hy := by
        conv => lhs; rw [sp]
        rw [List.map_append, un, List.map_cons, show hy 45 = 46 from rfl]
        simp
      rw [sp_place 45 l h]
      obtain ⟨j, hj⟩ : ∃ j, j = (Cut.upTo 45 l).length := ⟨_, rfl⟩
      rw [← hj] at e2 e3 fin ⊢
      have w : wrap64 ((j : Int) + ((bs [45]).size : Int)) = ((j + 1 : Nat) : Int) := by
        rw [bs_size]
        exact wr j (by omega)
      rw [w]
      have x0 : (bs l).extract 0 ((j : Int)).toNat = bs (Cut.upTo 45 l) := by rw [Int.toNat_natCast, bs_extHead, e3]
      have x1 : (bs l).extract (((j + 1 : Nat) : Int)).toNat (bs l).size = bs (l.drop (j + 1)) := by rw [Int.toNat_natCast, bs_extAll]
      rw [x0, x1, bs_size, bs_size, bs_size, rb_len, rb_of, rb_of, rb_app]
      refine ev_neg (by omega) (ev_pos (by omega) (ev_pos (by omega) (ev_pos (by omega) ?_)))
      refine ev_some ?_
      rw [rb_app, rb_len, rb_of, rb_app, fin]
      refine ev_pos (by rw [List.length_append]; simp; omega) (ev_pos (by omega) (ev_pos (by omega) ?_))
      exact ih (l.drop (j + 1)) (acc ++ Cut.upTo 45 l ++ [46]) (by rw [List.length_drop]; omega) (by rw [List.length_append, List.length_append, List.length_singleton, List.length_drop]; omega)
    · have h' : (l.any (fun x => x == 45)) = false := Bool.eq_false_iff.2 h
      have e : placeOf (fun x => x == (45 : UInt8)) l = -1 := by
        unfold placeOf
        rw [h']
        rfl
      rw [e, hy_not l h']
      refine ev_pos (by omega) (ev_pos (by rw [rb_len, bs_size]; omega) ?_)
      rw [rb_of, rb_app, rb_str]
      exact Ev.now _
theorem replace_ev (l : List UInt8) (hl : l.length ≤ 40000) : Ev (fun k => semantic_zzReplaceAll.f k (bs l) (bs [45]) (bs [46])) (bs (l.map hy)) := by
  unfold semantic_zzReplaceAll.f
  refine ev_neg (by rw [bs_size]; simp) ?_
  exact ra_loop l.length l [] (Nat.le_refl _) (by simpa using hl)
theorem fit_cut' (c : UInt8) (l : List UInt8) (hl : l.length ≤ 40000) : fit ((Cut.cutAt c l).map bs) = true := by
  obtain ⟨a, b⟩ := Cut.cutAt_sizes c l
  unfold fit
  rw [Bool.and_eq_true, List.all_eq_true]
  refine ⟨decide_eq_true (by rw [List.length_map]; omega), fun s hs => decide_eq_true ?_⟩
  obtain ⟨x, hx, rfl⟩ := List.mem_map.1 hs
  rw [bs_size]
  have := b x hx
  omega
end Go.Proofs.YtnbpoplomdocjaaGreatDoor.QC
namespace Go.Proofs.YtnbpoplomdocjaaGreatDoor.Giv
open Go.RowKit Go.Proofs.YtnbpoplomdocjaaGreatDoorW.PrintWords Go.Proofs.YtnbpoplomdocjaaGreatDoorW.PrintLast Go.Proofs.YtnbpoplomdocjaaGreatDoor.Pk Go.Proofs.YtnbpoplomdocjaaGreatDoor.Ord
/-- The numbers of a CRAN version; none: it is no version. -/
def crN (s : ByteArray) : Option (List Int) := if s.toList = [] then some [] else numsOf ((Cut.cutAt 46 (s.toList.map QC.hy)).map bs)
theorem crP_ev (s : ByteArray) (hs : s.size ≤ 40000) : Ev (fun k => crP k s) (crN s) := by
  unfold crP crN
  by_cases h : s.toList = []
  · rw [if_pos h]
    refine ev_pos h ?_
    exact Ev.now _
  · rw [if_neg h]
    refine ev_neg h ?_
    have r := QC.replace_ev s.toList (by rw [len_toList]; exact hs)
    rw [← bs_of] at r
    refine r.bind ?_
    have f := QC.fit_cut' 46 (s.toList.map QC.hy) (by rw [List.length_map, len_toList]; exact hs)
    refine (QC.split_ev 46 (s.toList.map QC.hy) (by rw [List.length_map, len_toList]; omega)).bind ?_
    refine ev_pos f ?_
    exact Ev.now _
end Go.Proofs.YtnbpoplomdocjaaGreatDoor.Giv
